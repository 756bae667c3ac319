import PyProof.Rows.All
import Wide.All
import OpenK.AllK
import Wide.FinOn
import PyProof.RangeIter
import PyProof.StrBlockI
import Open.Row
import KE.KLam
import Lean
import PySem.Challenge.RW_pe0120_01
set_option Elab.async false
section
set_option maxRecDepth 100000
set_option linter.unusedVariables false
namespace Mine
open PySem

inductive CV where
  | none | bool (b : Bool) | int (i : Int) | str (s : Str) | loc (n : Nat)
  deriving DecidableEq
inductive CO where
  | list (xs : List CV) | tup (xs : List CV) | dict (kvs : List (Int × Int)) (ep : Nat) | cell (v : Option CV) | any
  | range (a b c : Int) | inst (d : Nat) | idict (v : Option Nat) | code | clo (k : Nat) (cells : List (Str × Nat)) (ps : List Str) (body : Expr) (sc : Scope)
noncomputable abbrev CH := List CO
noncomputable abbrev CL := List (Str × CV)
inductive CF where
  | next | brk | ret (v : CV)
/-- where a loop stands -/
inductive CIt where
  | list (n i : Nat)
  | range (x c : Int) (left : Nat)
  | zip (x y : Str) (i : Nat)
  | items (vals : Bool) (n ep len i : Nat)
structure CE where
  scope : Scope
  cells : List (Str × Nat)
  lv : Nat
  code : Nat
  qual : Str

/-- a def of the text -/
structure Fn where
  addr : Nat
  code : Nat
  qual : Str
  args : Arguments
  body : List Stmt
  scope : Scope
/-- what the text's top holds: its defs, its int constants -/
structure Txt where
  fns : List (Str × Fn)
  nums : List (Str × Int)
  cmp : Fn

noncomputable def CL.set (L : CL) (x : Str) (v : CV) : CL := match L with
  | [] => [(x, v)]
  | (y, u) :: r => if y = x then (x, v) :: r else (y, u) :: CL.set r x v

noncomputable def kindIn (E : CE) (x : Str) : Option NameKind := E.scope.names.lookup x

noncomputable def getName (T : Txt) (E : CE) (L : CL) (x : Str) (H : CH) : Option CV := match kindIn E x with
  | some .local => L.lookup x
  | some .cell | some .free => match E.cells.lookup x with
    | some n => match H[n]? with
      | some (.cell v) => v
      | _ => none
    | none => none
  | some .globalImplicit => (T.nums.lookup x).map .int
  | _ => none
noncomputable def setName (E : CE) (x : Str) (v : CV) (L : CL) (H : CH) : Option (CL × CH) := match kindIn E x with
  | some .local => some (L.set x v, H)
  | some .cell => match E.cells.lookup x with
    | some n => match H[n]? with
      | some (.cell _) => if n = 0 then none else some (L, H.set n (.cell (some v)))
      | _ => none
    | none => none
  | _ => none

noncomputable def strLower (s : Str) : Option Str := match s with
  | ⟨⟨[c]⟩⟩ => if c = 65 ∨ c = 97 then some ⟨#[97]⟩ else if c = 66 ∨ c = 98 then some ⟨#[98]⟩ else none
  | _ => none

noncomputable def binop (op : Operator) (a b : CV) (H : CH) : Option (CV × CH) := match a with
  | .int x => match b with
    | .int y => match op with
      | .Add => some (.int (x + y), H)
      | .Sub => some (.int (x - y), H)
      | .Mult => if x.natAbs < 1000000000 then some (.int (x * y), H) else none
      | .Mod => if 0 < y then some (.int (x.fmod y), H) else none
      | .FloorDiv => if 0 < y ∧ y < 1000000000 then some (.int (x.fdiv y), H) else none
      | _ => none
    | _ => none
  | .str x => match b with
    | .str y => match op with
      | .Add => if x.cps.size + y.cps.size ≤ 1000 then some (.str (x ++ y), H) else none
      | _ => none
    | _ => none
  | .loc m => match b with
    | .loc n => match op with
      | .Add => match H[m]?, H[n]? with
        | some (.list xs), some (.list ys) => if xs.length + ys.length ≤ 1000 then some (.loc H.length, H ++ [.list (xs ++ ys)]) else none
        | _, _ => none
      | _ => none
    | _ => none
  | _ => none
/-- two dicts, alike as tables -/
noncomputable def sameTable (a b : List (Int × Int)) : Bool := a.length == b.length && a.all (fun p => b.lookup p.1 == some p.2)
noncomputable def sameObj (a b : CO) : Option Bool := match a, b with
  | .list xs, .list ys => if xs.length ≠ ys.length then some false else match xs, ys with
    | [], [] => some true
    | [.loc m], [.loc n] => if m = n then some true else none
    | _, _ => none
  | .dict x _, .dict y _ => if sameTable x y then some true else none
  | _, _ => none
noncomputable def cmpop (op : CmpOp) (a b : CV) (H : CH) : Option Bool := match a with
  | .int x => match b with
    | .int y => match op with
      | .Eq => some (decide (x = y))
      | .NotEq => some (decide (x ≠ y))
      | .Lt => some (decide (x < y))
      | .LtE => some (decide (x ≤ y))
      | .Gt => some (decide (y < x))
      | _ => none
    | .loc n => match op with
      | .In => match H[n]? with
        | some (.dict kvs _) => some (kvs.lookup x).isSome
        | _ => none
      | _ => none
    | _ => none
  | .str x => match b with
    | .str y => match op with
      | .Eq => some (decide (x = y))
      | _ => none
    | _ => none
  | .loc m => match b with
    | .loc n => match op with
      | .Eq => match H[m]?, H[n]? with
        | some (.list x), some (.list y) => sameObj (.list x) (.list y)
        | _, _ => none
      | .NotEq => match H[m]?, H[n]? with
        | some x, some y => (sameObj x y).map (!·)
        | _, _ => none
      | _ => none
    | _ => none
  | _ => none
noncomputable def truth (v : CV) : Option Bool := match v with
  | .bool b => some b
  | .str s => if s.cps.size ≤ 1000 then some (decide (s.cps.size ≠ 0)) else none
  | .int i => some (decide (i ≠ 0))
  | _ => none
noncomputable def idx (n : Nat) (i : Int) : Option Nat := if 1000 < n then none else if 0 ≤ i then (if i < n then some i.toNat else none) else if 0 ≤ i + n then some (i + n).toNat else none
noncomputable def getItem (a i : CV) (H : CH) : Option CV := match i with
  | .int k => match a with
    | .loc m => match H[m]? with
      | some (.list xs) => if 0 ≤ k ∧ xs.length ≤ 1000 then xs[k.toNat]? else none
      | some (.tup xs) => if 0 ≤ k ∧ xs.length ≤ 1000 then xs[k.toNat]? else none
      | _ => none
    | .str s => match idx s.cps.size k with
      | some j => match s.cps[j]? with
        | some c => some (.str ⟨#[c]⟩)
        | none => none
      | none => none
    | _ => none
  | _ => none
noncomputable def sPart : CV → Option (Option Int)
  | .none => some none
  | .int i => some (some i)
  | _ => none
noncomputable def sliceAt (a : CV) (lo hi : Option Int) (H : CH) : Option (CV × CH) := match a with
  | .str s => if s.cps.size ≤ 1000 then some (.str (Txt.slice s lo hi), H) else none
  | .loc m => match lo with
    | none => match hi with
      | some k => match H[m]? with
        | some (.list xs) => if 0 ≤ k ∧ xs.length ≤ 1000 then some (.loc H.length, H ++ [.list (xs.take k.toNat)]) else none
        | _ => none
      | none => none
    | some _ => none
  | _ => none
noncomputable def getSlice (a : CV) (lo hi : CV) (H : CH) : Option (CV × CH) := match sPart lo with
  | some lo => match sPart hi with
    | some hi => sliceAt a lo hi H
    | none => none
  | none => none
noncomputable def lexLt : List Int → List Int → Bool
  | [], [] => false
  | [], _ :: _ => true
  | _ :: _, [] => false
  | a :: as, b :: bs => if a = b then lexLt as bs else decide (a < b)
/-- three things in order, by their keys -/
noncomputable def order3 (a b c : List Int) (x y z : α) : List α :=
  if lexLt b a then (if lexLt c b then [z, y, x] else if lexLt c a then [y, z, x] else [y, x, z])
  else if lexLt c b then (if lexLt c a then [z, x, y] else [x, z, y]) else [x, y, z]

noncomputable def intL (l : List Int) : List CV := l.map .int
inductive BN where
  | len | range | list | min | max | sum | sorted | comp
noncomputable def builtins : List (Str × BN) := [("len", .len), ("range", .range), ("list", .list), ("min", .min), ("max", .max), ("sum", .sum), ("sorted", .sorted), ("TupleComp", .comp)]
/-- what the built-ins answer -/
inductive BiS : BN → List CV → CH → CV → CH → Prop
  | lenS {s : Str} {H : CH} (h : s.cps.size ≤ 1000) : BiS .len [.str s] H (.int s.cps.size) H
  | lenL {n : Nat} {xs : List CV} {H : CH} (hn : H[n]? = some (.list xs)) (h : xs.length ≤ 1000) : BiS .len [.loc n] H (.int xs.length) H
  | range1 {b : Int} {H : CH} : BiS .range [.int b] H (.loc H.length) (H ++ [.range 0 b 1])
  | range3 {a b c : Int} {H : CH} (h : 0 < c ∧ c < 1000 ∧ -1000 < a ∧ a < 1000 ∧ -1000 < b ∧ b < 1000) : BiS .range [.int a, .int b, .int c] H (.loc H.length) (H ++ [.range a b c])
  | list {n : Nat} {a b c : Int} {H : CH} (hn : H[n]? = some (.range a b c)) (h : Builtin.Range.small a b c ∧ Builtin.Range.rangeSize a b c ≤ 1000) : BiS .list [.loc n] H (.loc H.length) (H ++ [.list ((List.range (Builtin.Range.rangeSize a b c).toNat).map fun (i : Nat) => .int (a + i * c))])
  | min2 {a b : Int} {H : CH} : BiS .min [.int a, .int b] H (.int (if b < a then b else a)) H
  | minL {n : Nat} {x : Int} {r : List Int} {H : CH} (hn : H[n]? = some (.list (intL (x :: r)))) : BiS .min [.loc n] H (.int (r.foldl min x)) H
  | maxL {n : Nat} {x : Int} {r : List Int} {H : CH} (hn : H[n]? = some (.list (intL (x :: r)))) : BiS .max [.loc n] H (.int (r.foldl max x)) H
  | sum {n : Nat} {l : List Int} {H : CH} (hn : H[n]? = some (.list (intL l))) (h : l.length ≤ 1000 ∧ l.all (fun i => decide (-1000 < i) && decide (i < 1000)) = true) : BiS .sum [.loc n] H (.int l.sum) H
  | sorted {n x y z : Nat} {a b c : Int} {as bs cs : List Int} {H : CH} (hn : H[n]? = some (.list [.loc x, .loc y, .loc z])) (hx : H[x]? = some (.tup (intL (a :: as)))) (hy : H[y]? = some (.tup (intL (b :: bs)))) (hz : H[z]? = some (.tup (intL (c :: cs))))
      (hl : as.length = bs.length ∧ as.length = cs.length ∧ a :: as ≠ b :: bs ∧ a :: as ≠ c :: cs ∧ b :: bs ≠ c :: cs) : BiS .sorted [.loc n] H (.loc H.length) (H ++ [.list (order3 (a :: as) (b :: bs) (c :: cs) (.loc x) (.loc y) (.loc z))])
  | comp {n : Nat} {H : CH} : BiS .comp [.loc n] H (.loc (H.length + 1)) (H ++ [.idict (some n), .inst H.length])

/-- the item where the loop stands, and where it stands then -/
noncomputable def turn (it : CIt) (H : CH) : Option (Option (List CV × CIt)) := match it with
  | .list n i => match H[n]? with
    | some (.list xs) => match xs[i]? with
      | some v => some (some ([v], .list n (i + 1)))
      | none => some none
    | _ => none
  | .range x c left => match left with
    | 0 => some none
    | k + 1 => some (some ([.int x], .range (x + c) c k))
  | .zip x y i => match x.cps[i]?, y.cps[i]? with
    | some p, some q => some (some ([.str ⟨#[p]⟩, .str ⟨#[q]⟩], .zip x y (i + 1)))
    | none, _ => some none
    | _, none => none
  | .items vals n ep len i => match H[n]? with
    | some (.dict kvs ep') => if ep' = ep ∧ kvs.length = len ∧ len ≤ 1000 then match kvs[i]? with
        | some (k, v) => some (some (if vals then [.int v] else [.int k, .int v], .items vals n ep len (i + 1)))
        | none => some none
      else none
    | _ => none
noncomputable def iterOf (v : CV) (H : CH) : Option CIt := match v with
  | .loc n => match H[n]? with
    | some (.list _) => some (.list n 0)
    | some (.range a b c) => if Builtin.Range.small a b c then some (.range a c (Builtin.Range.rangeSize a b c).toNat) else none
    | _ => none
  | _ => none
noncomputable def plainBase : Expr → Bool
  | .Name .. => true
  | .Subscript .. => true
  | _ => false
noncomputable def nameOf : Expr → Option (Str × Pos)
  | .Name x p => some (x, p)
  | _ => none
noncomputable def namesOf (es : List Expr) : Option ((Str × Pos) × (Str × Pos)) := match es with
  | [a, b] => match nameOf a, nameOf b with
    | some x, some y => some (x, y)
    | _, _ => none
  | _ => none
noncomputable def bind2 (E : CE) (x y : Str) (v u : CV) (L : CL) (H : CH) : Option (CL × CH) := match setName E x v L H with
  | some (L, H) => setName E y u L H
  | none => none
noncomputable def two : CO → Option (CV × CV)
  | .tup xs => match xs with
    | [v, u] => some (v, u)
    | _ => none
  | _ => none
noncomputable def bindVals (E : CE) (x y : Str) (vs : List CV) (L : CL) (H : CH) : Option (CL × CH) := match vs with
  | [v, u] => bind2 E x y v u L H
  | [v] => match v with
    | .loc t => match H[t]? with
      | some o => match two o with
        | some (v, u) => bind2 E x y v u L H
        | none => none
      | none => none
    | _ => none
  | _ => none
noncomputable def bindTarget (E : CE) (t : Expr) (vs : List CV) (L : CL) (H : CH) : Option (CL × CH) := match t with
  | .Name x _ => match vs with
    | [v] => setName E x v L H
    | _ => none
  | .Tuple es _ _ => match namesOf es with
    | some (x, y) => bindVals E x.1 y.1 vs L H
    | none => none
  | _ => none

/-- new cells for a block's own cell names -/
noncomputable def newCells : List (Str × NameKind) → List (Str × Nat) → CH → List (Str × Nat) × CH
  | [], cs, H => (cs, H)
  | (n, k) :: r, cs, H => if k = .cell then newCells r ((n, H.length) :: cs) (H ++ [.cell none]) else newCells r cs H
noncomputable def closureOf (scope : Scope) (cells : List (Str × Nat)) : List (Str × NameKind) → List (Str × Nat) → Option (List (Str × Nat))
  | [], acc => some acc
  | (n, k) :: r, acc => if k = .free then match cells.lookup n with
      | some c => closureOf scope cells r ((n, c) :: acc)
      | none => none
    else closureOf scope cells r acc
noncomputable def bindAll (E : CE) : List (Str × CV) → CL → CH → Option (CL × CH)
  | [], L, H => some (L, H)
  | (x, v) :: r, L, H => match setName E x v L H with
    | some (L, H) => bindAll E r L H
    | none => none
/-- the env of a comprehension: free names that are cells of the frame's stand as cells -/
noncomputable def compScope (scope : Scope) (E : CE) : Scope := { scope with names := scope.names.map fun (n, k) => if k == .free && E.scope.kind == .function && kindIn E n == some .cell then (n, .cell) else (n, k) }
noncomputable def okScope (s : Scope) : Bool := decide (s.kind = .function) && (s.names.lookup ("__debug__" : Str)).isNone && (s.names.lookup ("__classdict__" : Str)).isNone && s.names.all fun x => decide (x.2 = .local → s.names.lookup x.1 = some .local)
noncomputable def compEnv (scope : Scope) (E : CE) (H : CH) : Option (CE × CH) := if okScope scope = false then none else match closureOf scope E.cells scope.names [] with
  | some cl => let (cs, H) := newCells scope.names cl H; some (⟨compScope scope E, cs, E.lv, E.code, E.qual⟩, H)
  | none => none

/-- the lambda's code object, if it has been made -/
noncomputable def codeAt : CH → Nat → Option Nat
  | [], _ => none
  | .code :: _, i => some i
  | _ :: r, i => codeAt r (i + 1)
noncomputable def isPlain : CV → Bool
  | .loc _ => false
  | _ => true
noncomputable def sliceOf : Expr → Option (Option Expr × Option Expr)
  | .Slice lo hi none _ => some (lo, hi)
  | _ => none
noncomputable def isSet : Expr → Bool
  | .Set .. => true
  | _ => false
/-- the one parameter of a plain lambda -/
noncomputable def LamPar (a : Arguments) (x : Str) : Prop := x = ("row" : Str) ∧ ∃ n q, a = ⟨[], [⟨x, n, q⟩], none, [], [], none, []⟩
noncomputable def isComp : Expr → Bool
  | .ListComp .. => true
  | .SetComp .. => true
  | .DictComp .. => true
  | _ => false
end Mine
end

section
set_option maxRecDepth 100000
set_option linter.unusedVariables false
set_option autoImplicit false
namespace Mine
open PySem
section
variable {E : CE} {L : CL} {H : CH} {p q : Pos}
end
section
variable {E : CE} {L : CL} {H : CH} {p q : Pos}
noncomputable def isTgt : Expr → Bool
  | .Name .. => true
  | .Subscript .. => true
  | _ => false
end
theorem nameOf_inv {e : Expr} {x : Str × Pos} (h : nameOf e = some x) : e = .Name x.1 x.2 := by
  cases e <;> cases h; rfl
theorem namesOf_inv {es : List Expr} {x : (Str × Pos) × (Str × Pos)} (h : namesOf es = some x) : es = [.Name x.1.1 x.1.2, .Name x.2.1 x.2.2] := by
  rcases es with _ | ⟨a, _ | ⟨b, _ | ⟨c, cs⟩⟩⟩
  · cases h
  · cases h
  · cases ha : nameOf a with
    | none => simp only [namesOf, ha] at h; cases h
    | some y =>
      cases hb : nameOf b with
      | none => simp only [namesOf, ha, hb] at h; cases h
      | some z => simp only [namesOf, ha, hb] at h; cases h; rw [nameOf_inv ha, nameOf_inv hb]
  · cases h
theorem CL.lookup_set (L : CL) (x : Str) (v : CV) (y : Str) : (CL.set L x v).lookup y = if y = x then some v else L.lookup y := by
  induction L with
  | nil =>
    show [(x, v)].lookup y = _
    by_cases h : y = x
    · subst h; simp
    · have : (y == x) = false := beq_eq_false_iff_ne.mpr h
      simp [List.lookup, this, h]
  | cons p r ih =>
    obtain ⟨z, u⟩ := p
    unfold CL.set
    by_cases hz : z = x
    · subst hz
      rw [if_pos rfl, List.lookup_cons, List.lookup_cons]
      by_cases h : y = z
      · subst h; simp
      · have : (y == z) = false := beq_eq_false_iff_ne.mpr h
        simp [this, h]
    · rw [if_neg hz, List.lookup_cons, List.lookup_cons, ih]
      by_cases h : y = z
      · subst h; simp [hz]
      · have : (y == z) = false := beq_eq_false_iff_ne.mpr h
        simp [this]
end Mine
end

section
set_option maxRecDepth 100000
set_option linter.unusedVariables false
set_option autoImplicit false
namespace Mine
open PySem
/-- what a run that ended has gone through: each as an elimination into any P, so that a long goal is named but once -/
theorem om {α β : Type} {o : Option α} {f : α → β} {z : β} {P : Prop} (h : o.map f = some z) (k : ∀ a, o = some a → f a = z → P) : P := by
  rcases o with _ | a
  · cases h
  · exact k a rfl (Option.some.inj h)
theorem oi {α : Type} {c : Prop} [Decidable c] {o : Option α} {z : α} {P : Prop} (h : (if c then o else none) = some z) (k : c → o = some z → P) : P := by
  by_cases hc : c
  · rw [if_pos hc] at h; exact k hc h
  · rw [if_neg hc] at h; cases h
theorem on {α : Type} {c : Prop} [Decidable c] {o : Option α} {z : α} {P : Prop} (h : (if c then none else o) = some z) (k : ¬ c → o = some z → P) : P := by
  by_cases hc : c
  · rw [if_pos hc] at h; cases h
  · rw [if_neg hc] at h; exact k hc h
theorem sp {α β : Type} {a a' : α} {b b' : β} {P : Prop} (h : (some (a, b) : Option (α × β)) = some (a', b')) (k : a = a' → b = b' → P) : P := by cases h; exact k rfl rfl
theorem notB {b : Bool} (h : ¬ b = true) : b = false := by cases b <;> first | rfl | exact absurd rfl h
section
variable {E : CE} {L : CL} {H H' : CH} {p q : Pos} {v : CV} {P : Prop}
theorem sliceOf_inv {i : Expr} {lo hi : Option Expr} (h : sliceOf i = some (lo, hi)) : ∃ q, i = .Slice lo hi none q := by
  cases i with
  | Slice a b c q => cases c <;> cases h; exact ⟨q, rfl⟩
  | _ => cases h
theorem i_item {a i : CV} (h : getItem a i H = some v) (k1 : ∀ m xs j, a = .loc m → i = .int j → H[m]? = some (.list xs) → 0 ≤ j → xs.length ≤ 1000 → xs[j.toNat]? = some v → P) (k2 : ∀ m xs j, a = .loc m → i = .int j → H[m]? = some (.tup xs) → 0 ≤ j → xs.length ≤ 1000 → xs[j.toNat]? = some v → P)
    (k3 : ∀ s j n c, a = .str s → i = .int j → idx s.cps.size j = some n → s.cps[n]? = some c → v = .str ⟨#[c]⟩ → P) : P := by
  unfold getItem at h
  split at h
  · split at h
    · split at h
      · rename_i hm; exact oi h fun hz h => k1 _ _ _ rfl rfl hm hz.1 hz.2 h
      · rename_i hm; exact oi h fun hz h => k2 _ _ _ rfl rfl hm hz.1 hz.2 h
      · cases h
    · split at h
      · rename_i hi
        split at h
        · rename_i hc; cases h; exact k3 _ _ _ _ rfl rfl hi hc rfl
        · cases h
      · cases h
    · cases h
  · cases h
theorem i_slice {a b c : CV} (h : getSlice a b c H = some (v, H')) (k1 : ∀ s lo hi, a = .str s → sPart b = some lo → sPart c = some hi → s.cps.size ≤ 1000 → v = .str (Txt.slice s lo hi) → H' = H → P)
    (k2 : ∀ m xs i, a = .loc m → sPart b = some none → sPart c = some (some i) → H[m]? = some (.list xs) → 0 ≤ i → xs.length ≤ 1000 → v = .loc H.length → H' = H ++ [.list (xs.take i.toNat)] → P) : P := by
  unfold getSlice at h
  split at h
  · rename_i hb
    split at h
    · rename_i hc
      unfold sliceAt at h
      split at h
      · exact oi h fun hz h => by cases h; exact k1 _ _ _ rfl hb hc hz rfl rfl
      · split at h
        · split at h
          · split at h
            · rename_i hm; exact oi h fun hz h => by cases h; exact k2 _ _ _ rfl hb hc hm hz.1 hz.2 rfl rfl
            · cases h
          · cases h
        · cases h
      · cases h
    · cases h
  · cases h
end
noncomputable def plainTest : Expr → Bool
  | .UnaryOp op _ _ => match op with
    | .Not => false
    | _ => true
  | .BoolOp .. => false
  | .IfExp .. => false
  | .Compare .. => false
  | _ => true
noncomputable def notStar : Expr → Bool
  | .Starred .. => false
  | _ => true
end Mine
end

section
set_option maxRecDepth 100000
set_option linter.unusedVariables false
set_option autoImplicit false
namespace Mine
open PySem PySem.W PyProof.Rows

noncomputable def VR (ρ : List Addr) : CV → Value → Prop
  | .none, v => v = .none
  | .bool b, v => v = .bool b
  | .int i, v => ∃ t, v = .int i t
  | .str s, v => ∃ t, v = .str s t
  | .loc n, v => ∃ a, ρ[n]? = some a ∧ v = .ref a
inductive VRs (ρ : List Addr) : List CV → List Value → Prop
  | nil : VRs ρ [] []
  | cons {c v cs vs} : VR ρ c v → VRs ρ cs vs → VRs ρ (c :: cs) (v :: vs)
noncomputable def OVR (ρ : List Addr) : Option CV → Option Value → Prop
  | none, v => v = none
  | some c, v => ∃ x, v = some x ∧ VR ρ c x
inductive DRs : List (Int × Int) → List DictEntry → Prop
  | nil : DRs [] []
  | cons {k v : Int} {t u : Tok} {r es} : DRs r es → DRs ((k, v) :: r) (⟨hashInt k, .int k t, .int v u⟩ :: es)
/-- the lambda's function object -/
structure LamFd (fd : FuncData) (c : Addr) (ps : List Str) (body : Expr) (sc : Scope) : Prop where
  scope : fd.scope = sc
  params : ∀ vals : List Value, vals.length = ps.length → bindArgs fd ⟨vals, []⟩ = pure (ps.zip vals)
  body : fd.body = .expr body
  glob : fd.globals = mainGlobals
  bi : fd.builtins = builtinsNs
  code : fd.code = .ref c
  qual : fd.qualname = ("_law_first.<locals>.<lambda>" : Str)
  ok : okScope sc = true
  co : sc.isCoroutine = false
  gen : sc.isGenerator = false
noncomputable def OR (T : Txt) (ρ : List Addr) (h : Heap) : CO → Addr → Prop
  | .list xs, a => ∃ vs n, h.get? a = some { cls := .type "list", data := .seq (List.toArray vs) n } ∧ VRs ρ xs vs
  | .tup xs, a => ∃ vs n, h.get? a = some { cls := .type "tuple", data := .seq (List.toArray vs) n } ∧ VRs ρ xs vs
  | .dict kvs ep, a => ∃ es, h.get? a = some ⟨.type "dict", none, .dict (List.toArray es) ep, #[]⟩ ∧ DRs kvs es ∧ (kvs.map (·.1)).Nodup
  | .any, a => ∃ o, h.get? a = some o
  | .cell v, a => ∃ x, h.IsCell a x ∧ OVR ρ v x
  | .range x y z, a => ∃ t u v, h.get? a = some { cls := .type "range", data := .fields #[.int x t, .int y u, .int z v] }
  | .inst d, a => ∃ da o, ρ[d]? = some da ∧ h.get? a = some o ∧ o.cls = .ref 38 ∧ o.dict = some da ∧ (∀ c, o.data ≠ .cls c) ∧ da ≠ a
  | .idict none, a => h.Ns1 a (fun _ => none)
  | .idict (some l), a => ∃ la, ρ[l]? = some la ∧ h.Ns1 a (fun y => if y = ("comp_select_list" : Str) then some (.ref la) else none)
  | .code, a => ∃ o vs t, h.get? a = some o ∧ o.data = .fields vs ∧ vs[1]? = some (.str (Str.ofString "_law_first.<locals>.<lambda>") t)
  | .clo k cells ps body sc, a => ∃ c fd, ρ[k]? = some c ∧ h.get? a = some ⟨.type "function", none, .func fd, #[]⟩ ∧ LamFd fd c ps body sc ∧ ∀ x n, cells.lookup x = some n → ∃ b, fd.closure.lookup x = some b ∧ ρ[n]? = some b


theorem pre_get {α : Type} {l l' : List α} (p : l <+: l') {n : Nat} {a : α} (e : l[n]? = some a) : l'[n]? = some a := by
  obtain ⟨t, rfl⟩ := p
  exact List.getElem?_append_left (List.getElem?_eq_some_iff.mp e).1 ▸ e
theorem VR.mono {ρ ρ' : List Addr} (p : ρ <+: ρ') : ∀ {c : CV} {v : Value}, VR ρ c v → VR ρ' c v
  | .none, _, h => h
  | .bool _, _, h => h
  | .int _, _, h => h
  | .str _, _, h => h
  | .loc _, _, ⟨a, e, h⟩ => ⟨a, pre_get p e, h⟩
theorem VRs.mono {ρ ρ' : List Addr} (p : ρ <+: ρ') {cs : List CV} {vs : List Value} (h : VRs ρ cs vs) : VRs ρ' cs vs := by
  induction h with
  | nil => exact .nil
  | cons h _ ih => exact .cons (h.mono p) ih
theorem OVR.mono {ρ ρ' : List Addr} (p : ρ <+: ρ') : ∀ {c : Option CV} {v : Option Value}, OVR ρ c v → OVR ρ' c v
  | none, _, h => h
  | some _, _, ⟨x, e, h⟩ => ⟨x, e, h.mono p⟩
theorem VRs.length {ρ : List Addr} {cs : List CV} {vs : List Value} (h : VRs ρ cs vs) : vs.length = cs.length := by
  induction h with
  | nil => rfl
  | cons _ _ ih => exact congrArg (· + 1) ih
theorem VRs.append {ρ : List Addr} {cs cs' : List CV} {vs vs' : List Value} (h : VRs ρ cs vs) (h' : VRs ρ cs' vs') : VRs ρ (cs ++ cs') (vs ++ vs') := by
  induction h with
  | nil => exact h'
  | cons h _ ih => exact .cons h ih
theorem VRs.get {ρ : List Addr} {cs : List CV} {vs : List Value} (h : VRs ρ cs vs) : ∀ {i : Nat} {c : CV}, cs[i]? = some c → ∃ v, vs[i]? = some v ∧ VR ρ c v := by
  induction h with
  | nil => intro i c e; cases e
  | cons h _ ih =>
    intro i c e
    cases i with
    | zero => cases e; exact ⟨_, rfl, h⟩
    | succ i => rw [List.getElem?_cons_succ] at e ⊢; exact ih e
theorem VRs.take {ρ : List Addr} {cs : List CV} {vs : List Value} (h : VRs ρ cs vs) : ∀ k, VRs ρ (cs.take k) (vs.take k) := by
  induction h with
  | nil => intro k; cases k <;> exact .nil
  | cons h _ ih =>
    intro k
    cases k with
    | zero => exact .nil
    | succ k => exact .cons h (ih k)
theorem VRs.set {ρ : List Addr} {cs : List CV} {vs : List Value} (h : VRs ρ cs vs) (i : Nat) {c : CV} {v : Value} (x : VR ρ c v) : VRs ρ (cs.set i c) (vs.set i v) := by
  induction h generalizing i with
  | nil => cases i <;> exact .nil
  | cons h r ih =>
    cases i with
    | zero => exact .cons x r
    | succ i => exact .cons h (ih i)
theorem VRs.erase {ρ : List Addr} {cs : List CV} {vs : List Value} (h : VRs ρ cs vs) : ∀ i, VRs ρ (cs.eraseIdx i) (vs.eraseIdx i) := by
  induction h with
  | nil => intro i; cases i <;> exact .nil
  | cons h r ih =>
    intro i
    cases i with
    | zero => exact r
    | succ i => exact .cons h (ih i)

theorem OR.mono {T : Txt} {ρ ρ' : List Addr} {h : Heap} (p : ρ <+: ρ') {o : CO} {a : Addr} (H : OR T ρ h o a) : OR T ρ' h o a := by
  cases o with
  | list _ => obtain ⟨vs, n, e, r⟩ := H; exact ⟨vs, n, e, r.mono p⟩
  | tup _ => obtain ⟨vs, n, e, r⟩ := H; exact ⟨vs, n, e, r.mono p⟩
  | dict => exact H
  | any => exact H
  | cell _ => obtain ⟨x, e, r⟩ := H; exact ⟨x, e, r.mono p⟩
  | range => exact H
  | inst _ => obtain ⟨da, o, e, r⟩ := H; exact ⟨da, o, pre_get p e, r⟩
  | idict v =>
    cases v with
    | none => exact H
    | some _ => obtain ⟨la, e, r⟩ := H; exact ⟨la, pre_get p e, r⟩
  | code => exact H
  | clo => obtain ⟨c, fd, e, r, l, q⟩ := H; exact ⟨c, fd, pre_get p e, r, l, fun x n z => (q x n z).imp fun _ u => ⟨u.1, pre_get p u.2⟩⟩
theorem OR.at {T : Txt} {ρ : List Addr} {h h' : Heap} {a : Addr} (k : ∀ o, h.get? a = some o → h'.get? a = some o) {o : CO} (H : OR T ρ h o a) : OR T ρ h' o a := by
  cases o with
  | list _ => obtain ⟨vs, n, e, r⟩ := H; exact ⟨vs, n, k _ e, r⟩
  | tup _ => obtain ⟨vs, n, e, r⟩ := H; exact ⟨vs, n, k _ e, r⟩
  | dict => obtain ⟨es, e, r⟩ := H; exact ⟨es, k _ e, r⟩
  | any => obtain ⟨o, e⟩ := H; exact ⟨o, k _ e⟩
  | cell _ => obtain ⟨x, ⟨o, ho, q⟩, r⟩ := H; exact ⟨x, ⟨o, k o ho, q⟩, r⟩
  | range => obtain ⟨t, u, v, e⟩ := H; exact ⟨t, u, v, k _ e⟩
  | inst _ => obtain ⟨da, o, e, g, r⟩ := H; exact ⟨da, o, e, k _ g, r⟩
  | idict v =>
    cases v with
    | none => exact Heap.Ns1.at H k
    | some _ => obtain ⟨la, e, r⟩ := H; exact ⟨la, e, r.at k⟩
  | code => obtain ⟨o, vs, t, e, r⟩ := H; exact ⟨o, vs, t, k _ e, r⟩
  | clo => obtain ⟨c, fd, e, r, l⟩ := H; exact ⟨c, fd, e, k _ r, l⟩
theorem OR.there {T : Txt} {ρ : List Addr} {h : Heap} {a : Addr} {o : CO} (H : OR T ρ h o a) : ∃ ob, h.get? a = some ob := by
  cases o with
  | list _ => obtain ⟨_, _, e, _⟩ := H; exact ⟨_, e⟩
  | tup _ => obtain ⟨_, _, e, _⟩ := H; exact ⟨_, e⟩
  | dict => obtain ⟨_, e, _⟩ := H; exact ⟨_, e⟩
  | any => exact H
  | cell _ => obtain ⟨_, ⟨o, ho, _⟩, _⟩ := H; exact ⟨o, ho⟩
  | range => obtain ⟨_, _, _, e⟩ := H; exact ⟨_, e⟩
  | inst _ => obtain ⟨_, _, _, r, _⟩ := H; exact ⟨_, r⟩
  | idict v =>
    cases v with
    | none => obtain ⟨_, _, _, r, _⟩ := H; exact ⟨_, r⟩
    | some _ => obtain ⟨_, _, ⟨_, _, _, r, _⟩⟩ := H; exact ⟨_, r⟩
  | code => obtain ⟨_, _, _, e, _⟩ := H; exact ⟨_, e⟩
  | clo => obtain ⟨_, _, _, r, _, _⟩ := H; exact ⟨_, r⟩
theorem snoc_inv {α : Type} {P : Prop} {l : List α} {x a : α} {n : Nat} (e : (l ++ [x])[n]? = some a) (k1 : n < l.length → l[n]? = some a → P) (k2 : n = l.length → x = a → P) : P := by
  by_cases h : n < l.length
  · rw [List.getElem?_append_left h] at e; exact k1 h e
  · rw [List.getElem?_append_right (Nat.le_of_not_lt h)] at e
    cases hk : n - l.length with
    | zero => rw [hk] at e; exact k2 (Nat.le_antisymm (Nat.le_of_sub_eq_zero hk) (Nat.le_of_not_lt h)) (Option.some.inj e)
    | succ k => rw [hk] at e; cases e

/-- the code table of _law_first -/
noncomputable def TabOk (ρ : List Addr) (H : CH) (h : Heap) : Prop := match codeAt H 0 with
  | none => h.get? 91 = some { cls := .none, data := .fields #[] }
  | some k => ∃ c, ρ[k]? = some c ∧ h.get? 91 = some { cls := .none, data := .fields #[rawInt 104, rawInt 29, .ref c] }
/-- the clean heap H lies in h, at ρ; h₁: the heap ahead of the call -/
structure SR (h₁ : Heap) (T : Txt) (ρ : List Addr) (H : CH) (h : Heap) : Prop where
  len : ρ.length = H.length
  nd : ρ.Nodup
  zero : ρ[0]? = some 109
  high : ∀ (n : Nat) (a : Addr), ρ[n]? = some a → n ≠ 0 → 110 ≤ a
  obj : ∀ (n : Nat) (o : CO) (a : Addr), H[n]? = some o → ρ[n]? = some a → OR T ρ h o a
  low : ∀ a o, a ≠ 91 → h₁.get? a = some o → h.get? a = some o
  tab : TabOk ρ H h
  size : 110 ≤ h.objs.size
  base : h₁.objs.size = 110 ∧ ∃ o, h₁.get? 109 = some o
/-- what a piece of the run does to the heap: X are its own -/
structure Stp (X : List Addr) (ρ : List Addr) (h : Heap) (ρ' : List Addr) (h' : Heap) : Prop where
  pre : ρ <+: ρ'
  fresh : ∀ a ∈ ρ', a ∈ ρ ∨ h.objs.size ≤ a
  size : h.objs.size ≤ h'.objs.size
  keep : ∀ a o, h.get? a = some o → a ∉ ρ → a ≠ 91 → a ∉ X → h'.get? a = some o
theorem Stp.refl (X : List Addr) (ρ : List Addr) (h : Heap) : Stp X ρ h ρ h := ⟨List.prefix_refl _, fun _ m => .inl m, Nat.le_refl _, fun _ _ e _ _ _ => e⟩
theorem Stp.trans {X Y ρ ρ' ρ'' : List Addr} {h h' h'' : Heap} (p : Stp X ρ h ρ' h') (q : Stp Y ρ' h' ρ'' h'') (z : ∀ a ∈ Y, a ∈ X ∨ h.objs.size ≤ a) : Stp X ρ h ρ'' h'' := by
  refine ⟨p.pre.trans q.pre, fun a m => ?_, Nat.le_trans p.size q.size, fun a o e n t x => ?_⟩
  · rcases q.fresh a m with m | m
    · exact p.fresh a m
    · exact .inr (Nat.le_trans p.size m)
  · refine q.keep a o (p.keep a o e n t x) (fun m => ?_) t (fun m => ?_)
    · rcases p.fresh a m with m | m
      · exact n m
      · exact absurd (Heap.lt_size e) (Nat.not_lt.mpr m)
    · rcases z a m with m | m
      · exact x m
      · exact absurd (Heap.lt_size e) (Nat.not_lt.mpr m)
theorem Stp.weaken {X Y ρ ρ' : List Addr} {h h' : Heap} (p : Stp X ρ h ρ' h') (z : ∀ a ∈ X, a ∈ Y ∨ h.objs.size ≤ a) : Stp Y ρ h ρ' h' :=
  (Stp.refl Y ρ h).trans p z
/-- a new thing that is not followed -/
theorem Stp.push {X ρ : List Addr} (h : Heap) (o : Obj) : Stp X ρ h ρ (h.push o) := ⟨List.prefix_refl _, fun _ m => .inl m, by rw [Heap.size_push]; (first | lia | omega), fun _ _ e _ _ _ => Heap.get?_push_of_some _ e⟩
theorem Stp.ext {X ρ : List Addr} {h h' : Heap} (k : ∀ a o, h.get? a = some o → a ∉ X → h'.get? a = some o) (z : h.objs.size ≤ h'.objs.size) : Stp X ρ h ρ h' := ⟨List.prefix_refl _, fun _ m => .inl m, z, fun a o e _ _ x => k a o e x⟩

namespace SR
variable {h₁ : Heap} {T : Txt} {ρ : List Addr} {H : CH} {h h' : Heap}
theorem som (S : SR h₁ T ρ H h) {n : Nat} {o : CO} (e : H[n]? = some o) : ∃ a, ρ[n]? = some a ∧ OR T ρ h o a := by
  have hn : n < ρ.length := by rw [S.len]; exact (List.getElem?_eq_some_iff.mp e).1
  exact ⟨ρ[n], List.getElem?_eq_getElem hn, S.obj n o _ e (List.getElem?_eq_getElem hn)⟩
theorem inj (S : SR h₁ T ρ H h) {m n : Nat} {a : Addr} (e : ρ[m]? = some a) (f : ρ[n]? = some a) : m = n := by
  obtain ⟨hm, em⟩ := List.getElem?_eq_some_iff.mp e
  obtain ⟨hn, en⟩ := List.getElem?_eq_some_iff.mp f
  have nd := List.pairwise_iff_getElem.mp S.nd
  rcases Nat.lt_trichotomy m n with l | l | l
  · exact absurd (em.trans en.symm) (nd m n hm hn l)
  · exact l
  · exact absurd (en.trans em.symm) (nd n m hn hm l)
theorem there (S : SR h₁ T ρ H h) {a : Addr} (m : a ∈ ρ) : ∃ o, h.get? a = some o := by
  obtain ⟨n, hn, rfl⟩ := List.getElem_of_mem m
  have hn' : n < H.length := S.len ▸ hn
  exact (S.obj n H[n] _ (List.getElem?_eq_getElem hn') (List.getElem?_eq_getElem hn)).there
theorem lt (S : SR h₁ T ρ H h) {a : Addr} (m : a ∈ ρ) : a < h.objs.size := let ⟨_, e⟩ := S.there m; Heap.lt_size e
theorem no91 (S : SR h₁ T ρ H h) : (91 : Addr) ∉ ρ := fun m => by
  obtain ⟨n, hn, e⟩ := List.getElem_of_mem m
  have e' : ρ[n]? = some 91 := by rw [List.getElem?_eq_getElem hn, e]
  by_cases z : n = 0
  · subst z; rw [S.zero] at e'; cases e'
  · exact absurd (S.high n 91 e' z) (by decide)
theorem nolow (S : SR h₁ T ρ H h) {a : Addr} (l : a < 109) : a ∉ ρ := fun m => by
  obtain ⟨n, hn, e⟩ := List.getElem_of_mem m
  have e' : ρ[n]? = some a := by rw [List.getElem?_eq_getElem hn, e]
  by_cases z : n = 0
  · subst z; rw [S.zero] at e'; cases e'; exact absurd l (Nat.lt_irrefl _)
  · exact absurd (Nat.lt_of_lt_of_le l (by decide : 109 ≤ 110)) (Nat.not_lt.mpr (S.high n a e' z))
/-- all that is followed stays -/
theorem keeps (S : SR h₁ T ρ H h) (k : ∀ a o, h.get? a = some o → a ∈ ρ ∨ a < 110 → h'.get? a = some o) (z : h.objs.size ≤ h'.objs.size) : SR h₁ T ρ H h' := by
  refine ⟨S.len, S.nd, S.zero, S.high, fun n o a e f => (S.obj n o a e f).at fun ob q => k a ob q (.inl (List.mem_of_getElem? f)), fun a o n e => k a o (S.low a o n e) (.inr (S.base.1 ▸ Heap.lt_size e)), ?_, Nat.le_trans S.size z, S.base⟩
  have t := S.tab
  unfold TabOk at t ⊢
  split at t
  · exact k _ _ t (.inr (by decide))
  · obtain ⟨c, e, r⟩ := t
    exact ⟨c, e, k _ _ r (.inr (by decide))⟩
theorem push (S : SR h₁ T ρ H h) (o : Obj) : SR h₁ T ρ H (h.push o) := S.keeps (fun _ _ e _ => Heap.get?_push_of_some _ e) (by rw [Heap.size_push]; (first | lia | omega))
theorem codeAt_append (H : CH) (o : CO) (hc : o ≠ .code) : ∀ i, codeAt (H ++ [o]) i = codeAt H i := by
  induction H with
  | nil => intro i; cases o <;> first | rfl | exact absurd rfl hc
  | cons x r ih => intro i; cases x <;> first | rfl | exact ih (i + 1)
theorem codeAt_set (H : CH) : ∀ (n : Nat) (o o' : CO) (i : Nat), H[n]? = some o → o ≠ .code → o' ≠ .code → codeAt (H.set n o') i = codeAt H i := by
  induction H with
  | nil => intro n o o' i e; cases e
  | cons x r ih =>
    intro n o o' i e h1 h2
    cases n with
    | zero =>
      have e2 : x = o := by simpa using e
      subst e2
      show codeAt (o' :: r) i = codeAt (x :: r) i
      have q : ∀ y : CO, y ≠ .code → codeAt (y :: r) i = codeAt r (i + 1) := fun y hy => by cases y <;> first | rfl | exact absurd rfl hy
      rw [q o' h2, q x h1]
    | succ n =>
      show codeAt (x :: r.set n o') i = codeAt (x :: r) i
      cases x <;> first | rfl | exact ih n o o' (i + 1) (by simpa using e) h1 h2
/-- a new thing, followed from here -/
theorem track (S : SR h₁ T ρ H h) {o : CO} {ob : Obj} (hc : o ≠ .code) (r : OR T (ρ ++ [h.objs.size]) (h.push ob) o h.objs.size) : SR h₁ T (ρ ++ [h.objs.size]) (H ++ [o]) (h.push ob) := by
  have S' := S.push ob
  have p : ρ <+: ρ ++ [h.objs.size] := List.prefix_append _ _
  have hlt : 0 < ρ.length := (List.getElem?_eq_some_iff.mp S.zero).1
  refine ⟨by rw [List.length_append, List.length_append, S.len]; rfl, ?_, pre_get p S.zero, fun n a e z => snoc_inv e (fun _ e => S.high n a e z) fun _ e => e ▸ S.size,
    fun n o' a e f => snoc_inv e (fun hn e => snoc_inv f (fun _ f => (S'.obj n o' a e f).mono p) fun hm _ => absurd (hm.trans S.len) (Nat.ne_of_lt hn)) fun hn e => snoc_inv f (fun hm _ => absurd (hn.trans S.len.symm) (Nat.ne_of_lt hm)) fun _ f => e ▸ f ▸ r, S'.low, ?_, S'.size, S.base⟩
  · rw [List.nodup_append]
    refine ⟨S.nd, List.pairwise_singleton .., fun a m b m' => ?_⟩
    rw [List.mem_singleton] at m'
    subst m'
    exact Nat.ne_of_lt (S.lt m)
  · have t := S'.tab
    unfold TabOk at t ⊢
    rw [codeAt_append H o hc]
    split at t
    · exact t
    · obtain ⟨c, e, q⟩ := t
      exact ⟨c, pre_get p e, q⟩
/-- a followed thing changed -/
theorem put (S : SR h₁ T ρ H h) {n : Nat} {o o' : CO} {a : Addr} (e : H[n]? = some o) (f : ρ[n]? = some a) (hn : n ≠ 0) (hc : o ≠ .code) (hc' : o' ≠ .code)
    (k : ∀ b ob, b ≠ a → h.get? b = some ob → h'.get? b = some ob) (z : h.objs.size ≤ h'.objs.size) (r : OR T ρ h' o' a) : SR h₁ T ρ (H.set n o') h' := by
  have ha := S.high n a f hn
  refine ⟨by rw [List.length_set]; exact S.len, S.nd, S.zero, S.high, fun m x b e' f' => ?_, fun b o q e' => k b o (fun y => ?_) (S.low b o q e'), ?_, Nat.le_trans S.size z, S.base⟩
  · by_cases hm : m = n
    · subst hm
      rw [f] at f'; cases f'
      rw [List.getElem?_set_self (List.getElem?_eq_some_iff.mp e).1] at e'
      cases e'; exact r
    · rw [List.getElem?_set_ne (Ne.symm hm)] at e'
      exact (S.obj m x b e' f').at fun ob q => k b ob (fun y => hm (S.inj f' (y ▸ f))) q
  · have lt := Heap.lt_size e'
    rw [S.base.1, y] at lt
    exact absurd lt (Nat.not_lt.mpr ha)
  · have t := S.tab
    unfold TabOk at t ⊢
    rw [codeAt_set H n o o' 0 e hc hc']
    split at t
    · exact k _ _ (Nat.ne_of_lt (Nat.lt_of_lt_of_le (by decide) ha)) t
    · obtain ⟨c, e, q⟩ := t
      exact ⟨c, e, k _ _ (Nat.ne_of_lt (Nat.lt_of_lt_of_le (by decide) ha)) q⟩
end SR
end Mine
end

section
set_option maxRecDepth 100000
set_option autoImplicit false
namespace Mine
open PySem
theorem upd_size (h : Heap) (a : Addr) (f : Obj → Obj) : (h.update a f).objs.size = h.objs.size := (Heap.SameBut.update ..).1
theorem setGen_heap (s : Shared) (g : Nat) (x : GenState) : (s.setGen g x).heap = s.heap := rfl
theorem runs_grow {M : Model} {Γ : Ctx} {p : Pos} {t : Sem PySem.Fin} {fs : List Frame} {s : Shared} {e : End} {s' : Shared} (h : Runs M Γ p t fs s e s') : s.heap.objs.size ≤ s'.heap.objs.size := by
  induction h <;> (try simp only [setGen_heap, upd_size, Heap.size_push] at *) <;> first | assumption | exact Nat.le_refl _ | (first | lia | omega)
theorem wp_grow {α : Type} {M : Model} {Γ : Ctx} (t : Sem α) : ∀ (n : Nat) (Q : α → Pos → Shared → Prop) (E : Value → Pos → Shared → Prop) (p : Pos) (s : Shared), n ≤ s.heap.objs.size →
    Sem.wp M Γ t (fun a p' s' => n ≤ s'.heap.objs.size → Q a p' s') E p s → Sem.wp M Γ t Q E p s := by
  induction t with
  | pure a => intro n Q E p s hn h; exact h hn
  | raise e => intro n Q E p s hn h; exact h
  | unsupported => intro n Q E p s hn h; exact h
  | finish => intro n Q E p s hn h; exact h
  | rule _ k ih => intro n Q E p s hn h; exact ih () n Q E p s hn h
  | «at» _ k ih => intro n Q E p s hn h; exact ih () n Q E _ s hn h
  | load a _ k ih => intro n Q E p s hn h; obtain ⟨o, ho, h⟩ := h; exact ⟨o, ho, ih o n Q E p s hn h⟩
  | update a _ f k ih => intro n Q E p s hn h; exact ⟨h.1, ih () n Q E p _ (by rw [upd_size]; exact hn) h.2⟩
  | alloc o k ih => intro n Q E p s hn h; exact ih _ n Q E p _ (by rw [Heap.size_push]; (first | lia | omega)) h
  | loadIfAlive a k ih => intro n Q E p s hn h; exact ih _ n Q E p s hn h
  | point _ k ih => intro n Q E p s hn h; exact ih () n Q E p s hn h
  | register => intro n Q E p s hn h; exact h
  | fresh k ih => intro n Q E p s hn h; exact ih _ n Q E p _ hn h
  | ask k ih => intro n Q E p s hn h; exact ih _ n Q E p s hn h
  | choose src m k ih => intro n Q E p s hn h; exact ⟨h.1, ih _ n Q E p _ hn h.2⟩
  | os q l k ih => intro n Q E p s hn h; exact ih _ n Q E p _ hn h
  | call c hd g l k ih =>
    intro n Q E p s hn h
    obtain ⟨r, s', hr, h⟩ := h
    exact ⟨r, s', hr, ih r n Q E p s' (Nat.le_trans hn (runs_grow hr)) h⟩
  | handled own k ih => intro n Q E p s hn h; exact ih _ n Q E p s hn h
  | newGen c k ih => intro n Q E p s hn h; exact ih _ n Q E p _ hn h
  | genState g k ih => intro n Q E p s hn h; obtain ⟨st, hs, h⟩ := h; exact ⟨st, hs, ih _ n Q E p s hn h⟩
  | resume g r l k ih =>
    intro n Q E p s hn h
    obtain ⟨res, s', hw, h⟩ := h
    refine ⟨res, s', hw, ih res n Q E p s' (Nat.le_trans hn ?_) h⟩
    unfold Wakes at hw
    split at hw
    · exact hw.elim
    · split at hw
      · obtain ⟨e₁, s₁, hr, _, _, rfl⟩ := hw
        have z := runs_grow hr
        exact z
      · rw [hw.2]; exact Nat.le_refl _
      · rw [hw.2]; exact Nat.le_refl _
    · obtain ⟨e₁, s₁, hr, _, _, rfl⟩ := hw
      have z := runs_grow hr
      exact z
    · rw [hw.2]; exact Nat.le_refl _
    · rw [hw.2]; exact Nat.le_refl _
  | yield => intro n Q E p s hn h; exact h
  | stack k ih => intro n Q E p s hn h; exact ih _ n Q E p s hn h
  | fork => intro n Q E p s hn h; exact h
  | thread k ih => intro n Q E p s hn h; exact ih _ n Q E p s hn h
  | await => intro n Q E p s hn h; exact h
theorem wpAny_grow {α : Type} {M : Model} {A : Around} {t : Sem α} {Q : α → Shared → Prop} {E : Value → Shared → Prop} {s : Shared}
    (h : wpAny M A t (fun a s' => s.heap.objs.size ≤ s'.heap.objs.size → Q a s') E s) : wpAny M A t Q E s :=
  fun Γ p hΓ => wp_grow t s.heap.objs.size _ _ p s (Nat.le_refl _) (h Γ p hΓ)
end Mine
end

section
set_option maxRecDepth 100000
set_option linter.unusedVariables false
set_option autoImplicit false
namespace Mine
open PySem PySem.W PyProof.Rows

noncomputable abbrev Fx : Value → Shared → Prop := fun _ _ => False
structure OkA (lv : Nat) (A : Around) : Prop where
  handled : A.handled = none
  depth : A.depth + lv ≤ 500
  units : A.units + 10 * lv ≤ 4000
structure ER (ρ : List Addr) (E : CE) (env : Env) : Prop where
  scope : env.scope = E.scope
  kind : E.scope.kind = .function
  glob : env.globals = mainGlobals
  bi : env.builtins = builtinsNs
  cells : ∀ (x : Str) (n : Nat), E.cells.lookup x = some n → ∃ a, env.cells.lookup x = some a ∧ ρ[n]? = some a
  loc : env.locals ∉ ρ
  high : 110 ≤ env.locals
  nodbg : E.scope.names.lookup ("__debug__" : Str) = none
  nocd : E.scope.names.lookup ("__classdict__" : Str) = none
  code : E.code ≠ 0 → env.code = .ref E.code
  qual : env.qual = E.qual
noncomputable def LR (ρ : List Addr) (L : CL) (env : Env) (h : Heap) : Prop := ∃ m, h.Ns env.locals m ∧ ∀ (x : Str) (c : CV), L.lookup x = some c → ∃ v, m x = some v ∧ VR ρ c v
theorem LR.lt {ρ : List Addr} {L : CL} {env : Env} {h : Heap} (l : LR ρ L env h) : env.locals < h.objs.size := let ⟨_, n, _⟩ := l; n.lt
theorem ne91 {a : Addr} (h : 110 ≤ a) : a ≠ 91 := Nat.ne_of_gt (Nat.lt_of_lt_of_le (by decide) h)
section
variable {X ρ ρ' : List Addr} {h h' : Heap} {E : CE} {env : Env} {L : CL}
theorem ER.step (e : ER ρ E env) (p : Stp X ρ h ρ' h') (l : env.locals < h.objs.size) : ER ρ' E env :=
  ⟨e.scope, e.kind, e.glob, e.bi, fun x n q => let ⟨a, u, v⟩ := e.cells x n q; ⟨a, u, pre_get p.pre v⟩, fun m => (p.fresh _ m).elim e.loc fun z => absurd l (Nat.not_lt.mpr z), e.high, e.nodbg, e.nocd, e.code, e.qual⟩
theorem LR.step (l : LR ρ L env h) (e : ER ρ E env) (p : Stp X ρ h ρ' h') (z : env.locals ∉ X) : LR ρ' L env h' := by
  obtain ⟨m, n, q⟩ := l
  exact ⟨m, n.at fun o ho => p.keep _ o ho e.loc (ne91 e.high) z, fun x c y => let ⟨v, u, w⟩ := q x c y; ⟨v, u, w.mono p.pre⟩⟩
end
noncomputable def FR (ρ : List Addr) : CF → Flow → Prop
  | .next, f => f = .next
  | .brk, f => f = .brk
  | .ret v, f => ∃ x, f = .ret x ∧ VR ρ v x

section
variable (prog : Program) (w : World) (h₁ : Heap) (T : Txt)
noncomputable def PostV (ρ : List Addr) (H' : CH) (s : Shared) (v : CV) (Q : Value → Shared → Prop) : Prop :=
  ∀ ρ' x h' tk, Stp [] ρ s.heap ρ' h' → SR h₁ T ρ' H' h' → VR ρ' v x → Q x { s with heap := h', toks := tk }
/-- what one run of an expression does -/
noncomputable def EvS (E : CE) (L : CL) (e : Expr) (H : CH) (v : CV) (H' : CH) : Prop :=
  ∀ {A : Around} {ρ : List Addr} {env : Env} {s : Shared}, OkA E.lv A → SR h₁ T ρ H s.heap → ER ρ E env → LR ρ L env s.heap →
  ∀ {Q : Value → Shared → Prop}, PostV h₁ T ρ H' s v Q → wpAny (model prog w) A (eval e env) Q Fx s
/-- operands, one behind the other -/
inductive EsS (E : CE) (L : CL) : List Expr → CH → List CV → CH → Prop
  | nil {H} : EsS E L [] H [] H
  | cons {e es H v H1 vs H2} : notStar e = true → EvS prog w h₁ T E L e H v H1 → EsS E L es H1 vs H2 → EsS E L (e :: es) H (v :: vs) H2
noncomputable def PostB (ρ : List Addr) (H' : CH) (s : Shared) (b : Bool) (Q : Bool → Shared → Prop) : Prop :=
  ∀ ρ' h' tk, Stp [] ρ s.heap ρ' h' → SR h₁ T ρ' H' h' → Q b { s with heap := h', toks := tk }
noncomputable def TsS (E : CE) (L : CL) (e : Expr) (H : CH) (b : Bool) (H' : CH) : Prop :=
  ∀ {A : Around} {ρ : List Addr} {env : Env} {s : Shared}, OkA E.lv A → SR h₁ T ρ H s.heap → ER ρ E env → LR ρ L env s.heap →
  ∀ {Q : Bool → Shared → Prop}, PostB h₁ T ρ H' s b Q → wpAny (model prog w) A (isTrue e env (eval e env)) Q Fx s
noncomputable def PostF (X : List Addr) (ρ : List Addr) (H' : CH) (L' : CL) (env : Env) (s : Shared) (c : CF) (Q : Flow → Shared → Prop) : Prop :=
  ∀ ρ' x h' tk, Stp (env.locals :: X) ρ s.heap ρ' h' → SR h₁ T ρ' H' h' → LR ρ' L' env h' → FR ρ' c x → Q x { s with heap := h', toks := tk }
noncomputable def ExS (E : CE) (st : Stmt) (L : CL) (H : CH) (c : CF) (L' : CL) (H' : CH) : Prop :=
  ∀ {A : Around} {ρ : List Addr} {env : Env} {s : Shared}, OkA E.lv A → SR h₁ T ρ H s.heap → ER ρ E env → LR ρ L env s.heap →
  ∀ {Q : Flow → Shared → Prop}, PostF h₁ T [] ρ H' L' env s c Q → wpAny (model prog w) A (exec st env) Q Fx s
noncomputable def ExsS (E : CE) (ss : List Stmt) (L : CL) (H : CH) (c : CF) (L' : CL) (H' : CH) : Prop :=
  ∀ {A : Around} {ρ : List Addr} {env : Env} {s : Shared}, OkA E.lv A → SR h₁ T ρ H s.heap → ER ρ E env → LR ρ L env s.heap →
  ∀ {Q : Flow → Shared → Prop}, PostF h₁ T [] ρ H' L' env s c Q → wpAny (model prog w) A (execs ss env) Q Fx s
/-- the iterator I stands where it says; X: all that it turns -/
noncomputable def ItR (ρ : List Addr) (h : Heap) : CIt → Addr → List Addr → Prop
  | .list n i, I, X => ∃ la, ρ[n]? = some la ∧ h.IsListIter I la i ∧ X = [I]
  | .range x c left, I, X => X = [I] ∧ IsRangeIter h I x left c
  | .zip x y i, I, X => ∃ TI TO i1 i2 a b t u, X = [I, TI, TO, i1, i2] ∧ X.Nodup ∧ IsZip h I TI TO .none ∧ IsPair h TI (.ref i1) (.ref i2) ∧ IsPair h TO a b ∧ h.IsStrIter i1 "str_ascii_iterator" x t i ∧ h.IsStrIter i2 "str_ascii_iterator" y u i
  | .items false n ep len i, I, X => X = [I] ∧ ∃ la ok ov, ρ[n]? = some la ∧ IsItemIter h I la i len ep ok ov
  | .items true n ep len i, I, X => X = [I] ∧ ∃ la, ρ[n]? = some la ∧ h.IsValIter I la i len ep
structure ItOk (ρ : List Addr) (env : Env) (h : Heap) (it : CIt) (I : Addr) (X : List Addr) : Prop where
  rel : ItR ρ h it I X
  off : ∀ a ∈ X, a ∉ ρ ∧ a ≠ env.locals ∧ 110 ≤ a
noncomputable def ForS (E : CE) (t : Expr) (it : CIt) (body : List Stmt) (L : CL) (H : CH) (c : CF) (L' : CL) (H' : CH) : Prop :=
  ∀ {A : Around} {ρ : List Addr} {env : Env} {s : Shared} {I : Addr} {X : List Addr}, OkA E.lv A → SR h₁ T ρ H s.heap → ER ρ E env → LR ρ L env s.heap → ItOk ρ env s.heap it I X →
  ∀ {R : Result → Shared → Prop}, PostF h₁ T X ρ H' L' env s c (fun f s' => R (.ok f) s') → codeAny (model prog w) A (.forLoop t (.ref I) body [] env) R s
noncomputable def WhS (E : CE) (t : Expr) (body : List Stmt) (L : CL) (H : CH) (c : CF) (L' : CL) (H' : CH) : Prop :=
  ∀ {A : Around} {ρ : List Addr} {env : Env} {s : Shared}, OkA E.lv A → SR h₁ T ρ H s.heap → ER ρ E env → LR ρ L env s.heap →
  ∀ {R : Result → Shared → Prop}, PostF h₁ T [] ρ H' L' env s c (fun f s' => R (.ok f) s') → codeAny (model prog w) A (.whileLoop t body [] env) R s
noncomputable def PostK (X : List Addr) (ρ : List Addr) (H' : CH) (env : Env) (s : Shared) (R' : Result → Shared → Prop) : Prop :=
  ∀ ρ' h' tk, Stp (env.locals :: X) ρ s.heap ρ' h' → SR h₁ T ρ' H' h' → (∃ m, h'.Ns env.locals m) → R' (.ok .next) { s with heap := h', toks := tk }
noncomputable def CmS (E : CE) (e : Expr) (it : CIt) (acc : Nat) (L : CL) (H : CH) (H' : CH) : Prop :=
  ∀ {A : Around} {ρ : List Addr} {env : Env} {s : Shared} {I a : Addr} {X : List Addr}, OkA E.lv A → SR h₁ T ρ H s.heap → ER ρ E env → LR ρ L env s.heap → ItOk ρ env s.heap it I X → ρ[acc]? = some a →
  ∀ {R : Result → Shared → Prop}, PostK h₁ T X ρ H' env s R → codeAny (model prog w) A (.compLoop e 0 (.ref I) (.ref a) env) R s
/-- after a source: the iterator stands -/
noncomputable def PostS (ρ : List Addr) (H1 : CH) (env : Env) (it : CIt) (s : Shared) (Q : Value → Shared → Prop) : Prop :=
  ∀ ρ' I X h' tk, Stp [] ρ s.heap ρ' h' → SR h₁ T ρ' H1 h' → ItOk ρ' env h' it I X → (∀ a ∈ X, s.heap.objs.size ≤ a) → Q (.ref I) { s with heap := h', toks := tk }
/-- a loop's source -/
structure ScS (E : CE) (L : CL) (x : Expr) (H : CH) (it : CIt) (H1 : CH) : Prop where
  set : ∀ (env : Env) (v : Value), foldedSetIterable x env v = pure v
  run : ∀ {A : Around} {ρ : List Addr} {env : Env} {s : Shared}, OkA E.lv A → SR h₁ T ρ H s.heap → ER ρ E env → LR ρ L env s.heap →
    ∀ {Q : Value → Shared → Prop}, PostS h₁ T ρ H1 env it s Q → wpAny (model prog w) A (eval x env) (fun v s₁ => wpAny (model prog w) A (pyIter v) Q Fx s₁) Fx s
end

section
variable {prog : Program} {w : World} {A : Around} {s : Shared} {env : Env} {R : Result → Shared → Prop}
theorem fx_noted {Q : Value → Shared → Prop} {α : Type} {t : Sem α} {P : α → Shared → Prop} (h : wpAny (model prog w) A t P Fx s) : wpAny (model prog w) A t P Q s := wpAny_mono h (fun _ _ x => x) fun _ _ x => x.elim
theorem code_for {t : Expr} {I : Value} {body : List Stmt}
    (h : wpAny (model prog w) A (pyNext I) (fun r s₁ => match r with
      | none => R (.ok .next) s₁
      | some v => wpAny (model prog w) A (letOwnedTupleGo t I v) (fun _ s₂ => wpAny (model prog w) A (assign t env v) (fun _ s₃ => wpAny (model prog w) A (execs body env) (fun f s₄ => match f with
          | .next | .cont => codeAny (model prog w) A (.forLoop t I body [] env) R s₄
          | .brk => R (.ok .next) s₄
          | .ret v => R (.ok (.ret v)) s₄) Fx s₃) Fx s₂) Fx s₁) Fx s) : codeAny (model prog w) A (.forLoop t I body [] env) R s := by
  refine codeAny_of_tree ?_
  rw [Around.under_of_weight (c := .forLoop t I body [] env) rfl]
  show wpAny _ _ ((forTurn t I body [] env).onRaise (fun x => do noteFrame x env; theTreesLotGoes x)) _ _ s
  refine wpAny_noted (fx_noted ?_)
  simp only [forTurn]
  refine wpAny_bind (wpAny_standAt (wpAny_bind (wpAny_onRaise (wpAny_mono h (fun r s₁ h₁ => ?_) fun _ _ h' => h'.elim))))
  cases r with
  | none => exact wpAny_pure ⟨rfl, codeAny_block (wpAny_execs_nil h₁)⟩
  | some v =>
    refine wpAny_bind (wpAny_mono h₁ (fun _ s₂ h₂ => ?_) fun _ _ h' => h')
    refine wpAny_bind (wpAny_mono h₂ (fun _ s₃ h₃ => wpAny_bind (wpAny_mono h₃ (fun f s₄ h₄ => ?_) fun _ _ h' => h')) fun _ _ h' => h')
    cases f with
    | next => exact wpAny_pure ⟨rfl, h₄⟩
    | cont => exact wpAny_pure ⟨rfl, h₄⟩
    | brk => exact wpAny_pure h₄
    | ret v => exact wpAny_pure h₄
theorem code_while {t : Expr} {body : List Stmt}
    (h : wpAny (model prog w) A (isTrue t env (eval t env)) (fun b s₂ =>
        if b then wpAny (model prog w) A (execs body env) (fun f s₃ => match f with
            | .next | .cont => codeAny (model prog w) A (.whileLoop t body [] env) R s₃
            | .brk => R (.ok .next) s₃
            | .ret v => R (.ok (.ret v)) s₃) Fx s₂
        else R (.ok .next) s₂) Fx s) : codeAny (model prog w) A (.whileLoop t body [] env) R s := by
  refine codeAny_of_tree ?_
  rw [Around.under_of_weight (c := .whileLoop t body [] env) rfl]
  show wpAny _ A ((whileTurn t body [] env).onRaise (fun x => do noteFrame x env; theTreesLotGoes x)) _ _ s
  refine wpAny_noted (fx_noted ?_)
  simp only [whileTurn]
  refine wpAny_bind (wpAny_mono h (fun b s₂ h₂ => ?_) fun _ _ h' => h')
  cases b with
  | false =>
    simp only [Bool.false_eq_true, if_false] at h₂ ⊢
    exact wpAny_bind (wpAny_execs_nil (wpAny_pure h₂))
  | true =>
    simp only [if_true] at h₂ ⊢
    refine wpAny_bind (wpAny_mono h₂ (fun f s₃ h₃ => ?_) fun _ _ h' => h')
    cases f with
    | next => exact wpAny_pure ⟨rfl, h₃⟩
    | cont => exact wpAny_pure ⟨rfl, h₃⟩
    | brk => exact wpAny_pure h₃
    | ret v => exact wpAny_pure h₃
end
end Mine
end

section
set_option maxRecDepth 100000
set_option linter.unusedVariables false
set_option autoImplicit false
namespace Mine
open PySem PySem.W PyProof.Rows

structure Bs (h₁ : Heap) (T : Txt) (mg mb : Str → Option Value) : Prop where
  g : h₁.Ns mainGlobals mg
  b : h₁.Ns builtinsNs mb
  lim : h₁.NoLimit
  nums : ∀ (x : Str) (i : Int), T.nums.lookup x = some i → ∃ t, mg x = some (.int i t)

section
variable {prog : Program} {w : World} {h₁ : Heap} {T : Txt} {mg mb : Str → Option Value} {A : Around} {ρ : List Addr} {E : CE} {L : CL} {H : CH} {env : Env} {s : Shared}
theorem SR.ns (S : SR h₁ T ρ H s.heap) {a : Addr} {m : Str → Option Value} (n : h₁.Ns a m) (h : a ≠ 91) : s.heap.Ns a m := n.at fun o e => S.low a o h e
theorem ER.kindOf (R : ER ρ E env) (x : Str) : env.kindOf x = kindIn E x := by unfold Env.kindOf kindIn; rw [R.scope]
theorem ER.fn (R : ER ρ E env) : env.scope.kind = .function := by rw [R.scope]; exact R.kind
theorem ER.plain (R : ER ρ E env) : (env.scope.kind == .class || (env.scope.kind == .module && env.locals != env.globals)) = false := by rw [R.fn]; rfl
theorem ER.ne (R : ER ρ E env) {x y : Str} {k : NameKind} (h : kindIn E x = some k) (n : E.scope.names.lookup y = none) : (x == y) = false := by
  refine beq_eq_false_iff_ne.mpr fun e => ?_
  subst e
  unfold kindIn at h
  rw [n] at h; cases h
theorem nm_load (B : Bs h₁ T mg mb) {x : Str} {v : CV} (e : getName T E L x H = some v) (S : SR h₁ T ρ H s.heap) (R : ER ρ E env) (l : LR ρ L env s.heap) {Q : Value → Shared → Prop}
    (q : ∀ y, VR ρ v y → Q y s) : wpAny (model prog w) A (loadName env x) Q Fx s := by
  unfold getName at e
  split at e
  · rename_i hk
    obtain ⟨m, hn, hm⟩ := l
    obtain ⟨y, hy, r⟩ := hm x v e
    exact wpAny_loadName_local R.fn ((R.kindOf x).trans hk) hn hy (q y r)
  · rename_i hk
    split at e
    · rename_i n hc
      split at e
      · rename_i u hu
        subst e
        obtain ⟨a, ha, hr⟩ := R.cells x n hc
        obtain ⟨y, hy, z⟩ := S.obj n _ a hu hr
        obtain ⟨y', rfl, z⟩ := z
        exact wpAny_loadName_cell R.fn ((R.kindOf x).trans hk) ha hy (q _ z)
      · cases e
    · cases e
  · rename_i hk
    split at e
    · rename_i n hc
      split at e
      · rename_i u hu
        subst e
        obtain ⟨a, ha, hr⟩ := R.cells x n hc
        obtain ⟨y, hy, z⟩ := S.obj n _ a hu hr
        obtain ⟨y', rfl, z⟩ := z
        exact wpAny_loadName_free R.fn ((R.kindOf x).trans hk) ha hy (q _ z) (R.ne hk R.nocd)
      · cases e
    · cases e
  · rename_i hk
    cases hi : T.nums.lookup x with
    | none => rw [hi] at e; cases e
    | some i =>
      rw [hi] at e
      cases e
      obtain ⟨t, ht⟩ := B.nums x i hi
      have hk' := (R.kindOf x).trans hk
      unfold loadName
      simp only [Env.blockKind, R.fn, hk', ScopeKind.isAnnotationScope, Bool.false_and, Bool.false_eq_true, if_false]
      unfold loadGlobal
      rw [R.glob]
      refine wpAny_bind (wpAny_nsGet (S.ns B.g (by decide)) ?_)
      rw [ht]
      exact wpAny_pure (q _ ⟨t, rfl⟩)
  · cases e
theorem SR.off (S : SR h₁ T ρ H s.heap) {h' : Heap} {a : Addr} (hs : Heap.SameBut a s.heap h') (ha : a ∉ ρ) (hi : 110 ≤ a) : SR h₁ T ρ H h' :=
  S.keeps (fun b o e m => (hs.2 b (fun z => m.elim (fun m => ha (z ▸ m)) fun m => absurd (z ▸ m) (Nat.not_lt.mpr hi))).trans e) (Nat.le_of_eq hs.1.symm)
theorem Stp.same {X : List Addr} {h h' : Heap} {a : Addr} (hs : Heap.SameBut a h h') (m : a ∈ ρ ∨ a ∈ X) : Stp X ρ h ρ h' :=
  ⟨List.prefix_refl _, fun _ m => .inl m, Nat.le_of_eq hs.1.symm, fun b o e n _ x => (hs.2 b fun z => m.elim (fun m => n (z ▸ m)) fun m => x (z ▸ m)).trans e⟩
theorem nm_store {x : Str} {v : CV} {L' : CL} {H' : CH} {y : Value} (e : setName E x v L H = some (L', H')) (S : SR h₁ T ρ H s.heap) (R : ER ρ E env) (l : LR ρ L env s.heap) (hv : VR ρ v y) {Q : Unit → Shared → Prop}
    (q : ∀ h' tk, Stp [env.locals] ρ s.heap ρ h' → SR h₁ T ρ H' h' → LR ρ L' env h' → Q () { s with heap := h', toks := tk }) : wpAny (model prog w) A (storeName env x y) Q Fx s := by
  unfold setName at e
  split at e
  · rename_i hk
    cases e
    obtain ⟨m, hn, hm⟩ := l
    refine wpAny_storeName_local ((R.kindOf x).trans hk) hn (fun h' hn' hs => ?_) R.plain
    refine q h' _ (Stp.same hs (.inr (.head _))) (S.off hs R.loc R.high) ⟨_, hn', fun z c hz => ?_⟩
    rw [CL.lookup_set] at hz
    by_cases hx : z = x
    · rw [if_pos hx] at hz ⊢
      cases hz
      exact ⟨y, rfl, hv⟩
    · rw [if_neg hx] at hz ⊢
      exact hm z c hz
  · rename_i hk
    split at e
    · rename_i n hc
      split at e
      · rename_i u hu
        split at e
        · cases e
        rename_i hn0
        cases e
        obtain ⟨a, ha, hr⟩ := R.cells x n hc
        obtain ⟨y₀, hy, z⟩ := S.obj n _ a hu hr
        have hal : env.locals ≠ a := fun z => R.loc (z ▸ List.mem_of_getElem? hr)
        refine wpAny_storeName_cell R.fn ((R.kindOf x).trans hk) ha hy fun h' hc' hs => ?_
        refine q h' s.toks (Stp.same hs (.inl (List.mem_of_getElem? hr))) (S.put hu hr hn0 (by intro z; cases z) (by intro z; cases z) (fun b ob nb e => (hs.2 b nb).trans e) (Nat.le_of_eq hs.1.symm) ⟨_, hc', y, rfl, hv⟩) ?_
        obtain ⟨m, hn, hm⟩ := l
        exact ⟨m, hn.sameBut hs hal, hm⟩
      · cases e
    · cases e
  · cases e
end
end Mine
end

section
set_option maxRecDepth 100000
set_option linter.unusedVariables false
set_option autoImplicit false
namespace Mine
open PySem PySem.W PyProof.Rows
section
variable {prog : Program} {w : World} {h : Heap}
theorem DRs.length {kvs : List (Int × Int)} {es : List DictEntry} (d : DRs kvs es) : es.length = kvs.length := by induction d with
  | nil => rfl
  | cons _ ih => simp [ih]
theorem DRs.keys {kvs : List (Int × Int)} {es : List DictEntry} (d : DRs kvs es) : ∀ e ∈ es, ∃ k t, e.key = .int k t ∧ e.hash = hashInt k := by induction d with
  | nil => intro e m; cases m
  | cons _ ih => intro e m; cases m with
    | head => exact ⟨_, _, rfl, rfl⟩
    | tail _ m => exact ih e m
theorem DRs.off {kvs : List (Int × Int)} {es : List DictEntry} {k : Int} (d : DRs kvs es) (hn : kvs.lookup k = none) : ∀ e ∈ es, Value.isInt k e.key = false := by induction d with
  | nil => intro e m; cases m
  | @cons k' v t u r es _ ih =>
    rw [List.lookup_cons] at hn
    cases hb : k == k' with
    | true => rw [hb] at hn; cases hn
    | false =>
      rw [hb] at hn
      intro e m; cases m with
      | head =>
        have : k' ≠ k := fun z => by rw [z] at hb; simp at hb
        simp [Value.isInt, this]
      | tail _ m => exact ih hn e m
theorem DRs.snoc {kvs : List (Int × Int)} {es : List DictEntry} {k v : Int} {t u : Tok} (d : DRs kvs es) : DRs (kvs ++ [(k, v)]) (es ++ [⟨hashInt k, .int k t, .int v u⟩]) := by induction d with
  | nil => exact .cons .nil
  | cons _ ih => exact .cons ih
theorem nodup_snoc {kvs : List (Int × Int)} {k v : Int} (n : (kvs.map (·.1)).Nodup) (hn : kvs.lookup k = none) : ((kvs ++ [(k, v)]).map (·.1)).Nodup := by
  rw [List.map_append, List.nodup_append]
  have key : k ∉ kvs.map (·.1) := by
    clear n
    induction kvs with
    | nil => intro m; cases m
    | cons p r ih =>
      obtain ⟨x, y⟩ := p
      rw [List.lookup_cons] at hn
      cases hb : k == x with
      | true => rw [hb] at hn; cases hn
      | false =>
        rw [hb] at hn
        intro m
        rcases List.mem_cons.mp m with m | m
        · rw [m] at hb; simp at hb
        · exact ih hn m
  refine ⟨n, by simp, fun a m b m' => ?_⟩
  have e : b = k := by simpa using m'
  rintro rfl
  exact key (e ▸ m)
theorem DRs.pairs {kvs : List (Int × Int)} {es : List DictEntry} (d : DRs kvs es) : ∃ vs : List (Int × Value), Pairs (intKind prog w) es vs ∧ vs.map (·.1) = kvs.map (·.1) ∧
    (∀ (i : Nat) (k v : Int), kvs[i]? = some (k, v) → ∃ u : Tok, vs[i]? = some (k, Value.int v u)) ∧ ∀ k : Int, (kvs.lookup k = none → valueAt vs k = none) ∧ ∀ v : Int, kvs.lookup k = some v → ∃ u : Tok, valueAt vs k = some (Value.int v u) := by
  induction d with
  | nil => exact ⟨[], .nil, rfl, fun i k v e => by simp at e, fun k => ⟨fun _ => rfl, fun v e => by simp at e⟩⟩
  | @cons k v t u r es _ ih =>
    obtain ⟨vs, h1, h2, h3, h4⟩ := ih
    refine ⟨(k, .int v u) :: vs, .cons (by simp [intKind, Value.isInt]) rfl h1, by simp [h2], fun i a b e => ?_, fun a => ?_⟩
    · cases i with
      | zero => cases e; exact ⟨u, rfl⟩
      | succ i => exact h3 i a b e
    · rw [List.lookup_cons]
      by_cases hk : a = k
      · subst hk
        refine ⟨fun z => by simp at z, fun z e => ?_⟩
        simp at e
        subst e
        exact ⟨u, by simp [valueAt]⟩
      · have hb : (a == k) = false := by simpa using hk
        rw [hb]
        have : valueAt ((k, Value.int v u) :: vs) a = valueAt vs a := by simp [valueAt, List.find?_cons, Ne.symm hk]
        rw [this]
        exact h4 a
theorem DRs.dictAt {a : Addr} {kvs : List (Int × Int)} {es : List DictEntry} {ep : Nat} (g : h.get? a = some ⟨.type "dict", none, .dict (List.toArray es) ep, #[]⟩) (d : DRs kvs es) (n : (kvs.map (·.1)).Nodup) :
    ∃ vs : List (Int × Value), h.DictAt (intKind prog w) a vs ep ∧ vs.length = kvs.length ∧
    (∀ (i : Nat) (k v : Int), kvs[i]? = some (k, v) → ∃ u : Tok, vs[i]? = some (k, Value.int v u)) ∧ ∀ k : Int, (kvs.lookup k = none → valueAt vs k = none) ∧ ∀ v : Int, kvs.lookup k = some v → ∃ u : Tok, valueAt vs k = some (Value.int v u) := by
  obtain ⟨vs, h1, h2, h3, h4⟩ := d.pairs (prog := prog) (w := w)
  refine ⟨vs, ⟨_, _, g, ⟨rfl, rfl, rfl⟩, rfl, fun e m => ?_, by simpa using h1, by rw [h2]; exact n⟩, by have := congrArg List.length h2; simpa using this, h3, h4⟩
  obtain ⟨k, t, e1, e2⟩ := d.keys e (by simpa using m)
  exact ⟨k, by rw [e1]; simp [intKind, Value.isInt], e2⟩
theorem DictAt_of {a : Addr} {vs : List (Int × Value)} {ep : Nat} (x : h.DictAt (intKind prog w) a vs ep) : h.DictOf (intKind prog w) a vs := let ⟨o, es, r⟩ := x; ⟨o, es, ep, r⟩
end
end Mine
end

section
set_option maxRecDepth 100000
set_option linter.unusedVariables false
set_option autoImplicit false
namespace Mine
open PySem PySem.W PyProof.Rows
section
variable {prog : Program} {w : World} {h₁ : Heap} {T : Txt} {mg mb : Str → Option Value} {A : Around} {ρ : List Addr} {H H' : CH} {s : Shared} {a b v : CV} {x y : Value} {Q : Value → Shared → Prop} {o : CO}
theorem PostV.here (p : PostV h₁ T ρ H s v Q) (S : SR h₁ T ρ H s.heap) (r : VR ρ v x) (tk : Nat) : Q x { s with toks := tk } := p ρ x s.heap tk (Stp.refl ..) S r
theorem PostV.here' (p : PostV h₁ T ρ H s v Q) (S : SR h₁ T ρ H s.heap) (r : VR ρ v x) : Q x s := p ρ x s.heap s.toks (Stp.refl ..) S r
theorem PostV.newly (p : PostV h₁ T ρ (H ++ [o]) s (.loc H.length) Q) (S : SR h₁ T ρ H s.heap) {ob : Obj} (hc : o ≠ CO.code) (r : OR T (ρ ++ [s.heap.objs.size]) (s.heap.push ob) o s.heap.objs.size) (tk : Nat) :
    Q (.ref s.heap.objs.size) { s with heap := s.heap.push ob, toks := tk } := by
  refine p (ρ ++ [s.heap.objs.size]) _ _ tk ⟨List.prefix_append _ _, fun a m => ?_, by rw [Heap.size_push]; (first | lia | omega), fun a o e _ _ _ => Heap.get?_push_of_some _ e⟩ (S.track hc r) ⟨_, ?_, rfl⟩
  · rcases List.mem_append.mp m with m | m
    · exact .inl m
    · rw [List.mem_singleton.mp m]; exact .inr (Nat.le_refl _)
  · rw [← S.len]; simp
theorem VRs.isList {xs : List CV} {vs : List Value} (r : VRs ρ xs vs) : vs.toArray.size = xs.length := by rw [List.size_toArray, r.length]
theorem bin_int {op : Operator} {i j : Int} {t u : Tok} (e : binop op (.int i) (.int j) H = some (v, H')) (S : SR h₁ T ρ H s.heap) (p : PostV h₁ T ρ H' s v Q) : wpAny (model prog w) A (binaryOp op (.int i t) (.int j u)) Q Fx s := by
  cases op with
  | Add => cases e; exact add_int (p.here S ⟨_, rfl⟩ _)
  | Sub => cases e; exact sub_int (p.here S ⟨_, rfl⟩ _)
  | Mult =>
    by_cases h : i.natAbs < 1000000000
    · cases (if_pos h).symm.trans e
      exact mul_int (p.here S ⟨_, rfl⟩ _) (IntMulOk.of_left (intBits_le_64 (by (first | lia | omega)) (by (first | lia | omega))))
    · cases (if_neg h).symm.trans e
  | Mod =>
    by_cases h : 0 < j
    · cases (if_pos h).symm.trans e
      exact mod_int (Int.ne_of_gt h) (p.here S ⟨_, rfl⟩ _)
    · cases (if_neg h).symm.trans e
  | FloorDiv =>
    by_cases h : 0 < j ∧ j < 1000000000
    · cases (if_pos h).symm.trans e
      exact floordiv_int (Int.ne_of_gt h.1) (p.here S ⟨_, rfl⟩ _) (.inl (PyProof.noPylong_small (by (first | lia | omega))))
    · cases (if_neg h).symm.trans e
  | _ => cases e
theorem bin_lists {m n : Nat} {a1 b1 : Addr} {xs ys : List CV} (S : SR h₁ T ρ H s.heap) (hm : H[m]? = some (.list xs)) (hn : H[n]? = some (.list ys)) (ea : ρ[m]? = some a1) (eb : ρ[n]? = some b1) (hz : xs.length + ys.length ≤ 1000) (p : PostV h₁ T ρ (H ++ [.list (xs ++ ys)]) s (.loc H.length) Q) :
    wpAny (model prog w) A (binaryOp .Add (.ref a1) (.ref b1)) Q Fx s := by
  obtain ⟨vs, k, gv, rv⟩ := S.obj _ _ a1 hm ea
  obtain ⟨us, k', gu, ru⟩ := S.obj _ _ b1 hn eb
  refine P.add_list gv gu (p.newly S (by intro z; cases z) ⟨vs ++ us, 0, ?_, (rv.append ru).mono (List.prefix_append _ _)⟩ s.toks) (by rw [rv.isList, ru.isList]; exact Nat.le_trans hz (by decide))
  rw [Heap.get?_push_size _ rfl]; simp
theorem bin_ok {op : Operator} (e : binop op a b H = some (v, H')) (S : SR h₁ T ρ H s.heap) (ha : VR ρ a x) (hb : VR ρ b y) (p : PostV h₁ T ρ H' s v Q) : wpAny (model prog w) A (binaryOp op x y) Q Fx s := by
  cases a with
  | int i =>
    cases b with
    | int j => obtain ⟨t, rfl⟩ := ha; obtain ⟨u, rfl⟩ := hb; exact bin_int e S p
    | _ => cases e
  | str c =>
    cases b with
    | str d =>
      cases op with
      | Add =>
        obtain ⟨t, rfl⟩ := ha; obtain ⟨u, rfl⟩ := hb
        by_cases h : c.cps.size + d.cps.size ≤ 1000
        · cases (if_pos h).symm.trans e
          exact add_str (fun t' tk => p.here S ⟨_, rfl⟩ _) (Nat.le_trans h (by decide))
        · cases (if_neg h).symm.trans e
      | _ => cases e
    | _ => cases e
  | loc m =>
    cases b with
    | loc n =>
      cases op with
      | Add =>
        simp only [binop] at e
        split at e
        · rename_i xs ys hm hn
          split at e
          · rename_i hz
            cases e; obtain ⟨a1, ea, rfl⟩ := ha; obtain ⟨b1, eb, rfl⟩ := hb
            exact bin_lists S hm hn ea eb hz p
          · cases e
        · cases e
      | _ => cases e
    | _ => cases e
  | _ => cases e
theorem cmp_in {z : Bool} {k : Int} {n : Nat} {d : Addr} {t : Tok} {kvs : List (Int × Int)} {ep : Nat} (S : SR h₁ T ρ H s.heap) (hn : H[n]? = some (.dict kvs ep)) (ed : ρ[n]? = some d) (hz : (kvs.lookup k).isSome = z) (q : ∀ tk, Q (.bool z) { s with toks := tk }) : wpAny (model prog w) A (compareOp .In (.int k t) (.ref d)) Q Fx s := by
  obtain ⟨es, g, dr, nd⟩ := S.obj _ _ d hn ed
  obtain ⟨vs, da, _, _, l⟩ := dr.dictAt (prog := prog) (w := w) g nd
  have hlow : (d == sysModules) = false := beq_eq_false_iff_ne.mpr fun z => S.nolow (by rw [z]; decide) (List.mem_of_getElem? ed)
  refine PySem.wpAny_in_of (knd := intKind prog w) (k := k) (by simp [intKind, Value.isInt]) hlow (DictAt_of da).mapOf ?_
  have e : (valueAt vs k).isSome = z := by
    rw [← hz]
    cases hk : kvs.lookup k with
    | none => rw [(l k).1 hk]; rfl
    | some v => obtain ⟨u, hu⟩ := (l k).2 v hk; rw [hu]; rfl
  rw [e]
  exact q _
theorem cmp_int {op : CmpOp} {z : Bool} {i j : Int} {t u : Tok} (e : cmpop op (.int i) (.int j) H = some z) (q : Q (.bool z) s) : wpAny (model prog w) A (compareOp op (.int i t) (.int j u)) Q Fx s := by
  cases op with
  | Eq => cases e; exact eq_int q
  | NotEq =>
    cases e
    refine ne_int ?_
    rwa [show (i != j) = decide (i ≠ j) from by by_cases h : i = j <;> simp [bne, h]]
  | Lt => cases e; exact lt_int q
  | LtE => cases e; exact le_int q
  | Gt => cases e; exact gt_int q
  | _ => cases e
/-- an int, a text compared -/
theorem cmp_plain {op : CmpOp} {z : Bool} (S : SR h₁ T ρ H s.heap) (e : cmpop op a b H = some z) (ha : VR ρ a x) (hb : VR ρ b y) (hl : ∀ m n, ¬ (a = .loc m ∧ b = .loc n)) (q : ∀ tk, Q (.bool z) { s with toks := tk }) : wpAny (model prog w) A (compareOp op x y) Q Fx s := by
  cases a with
  | int i =>
    cases b with
    | int j => obtain ⟨t, rfl⟩ := ha; obtain ⟨u, rfl⟩ := hb; exact cmp_int e (q s.toks)
    | loc n =>
      cases op with
      | In =>
        simp only [cmpop] at e
        split at e
        · rename_i kvs ep hn
          obtain ⟨t, rfl⟩ := ha
          obtain ⟨d, ed, rfl⟩ := hb
          exact cmp_in S hn ed (Option.some.inj e) q
        · cases e
      | _ => cases e
    | _ => cases e
  | str c =>
    cases b with
    | str d =>
      cases op with
      | Eq => cases e; obtain ⟨t, rfl⟩ := ha; obtain ⟨u, rfl⟩ := hb; exact eq_str (q s.toks)
      | _ => cases e
    | _ => cases e
  | loc m =>
    cases b with
    | loc n => exact absurd ⟨rfl, rfl⟩ (hl _ _)
    | _ => cases e
  | _ => cases e
theorem truth_ok {z : Bool} {Q : Bool → Shared → Prop} (e : truth a = some z) (ha : VR ρ a x) (q : ∀ tk, Q z { s with toks := tk }) : wpAny (model prog w) A (truthy x) Q Fx s := by
  unfold truth at e
  split at e
  · cases e; cases ha; exact wpAny_truthy_bool (q s.toks)
  · split at e
    · rename_i c hz
      cases e; obtain ⟨t, rfl⟩ := ha
      refine PySem.P.truthy_str (x := c) (by have : c.length = c.cps.size := rfl; (first | lia | omega)) ?_
      have := q (s.toks + 1 + 1)
      rwa [show ((c.length : Int) != 0) = decide (c.cps.size ≠ 0) from by have : c.length = c.cps.size := rfl; rw [this]; by_cases h : c.cps.size = 0 <;> simp [bne, h]]
    · cases e
  · cases e; obtain ⟨t, rfl⟩ := ha
    rename_i i
    refine truthy_int ?_
    have := q s.toks
    rwa [show (i != 0) = decide (i ≠ 0) from by by_cases h : i = 0 <;> simp [bne, h]]
  · cases e
theorem typeIs_list {l : Addr} {c : String} {d : Data} (h : s.heap.get? l = some { cls := .type c, data := d }) : s.TypeIs (.ref l) c := ⟨_, h, rfl⟩
end
end Mine
end

section
set_option maxRecDepth 100000
set_option linter.unusedVariables false
set_option autoImplicit false
namespace Mine
open PySem PySem.W PyProof.Rows
section
variable {prog : Program} {w : World} {h₁ : Heap} {T : Txt} {mg mb : Str → Option Value} {A : Around} {ρ ρ₁ : List Addr} {E : CE} {L : CL} {H H' : CH} {env : Env} {s : Shared} {v : CV} {Q : Value → Shared → Prop} {hp₁ : Heap} {tk₁ : Nat}
theorem PostV.after (p : PostV h₁ T ρ H' s v Q) (st : Stp [] ρ s.heap ρ₁ hp₁) : PostV h₁ T ρ₁ H' { s with heap := hp₁, toks := tk₁ } v Q :=
  fun ρ' x h' tk st' S' z => p ρ' x h' tk (st.trans st' (fun _ m => nomatch m)) S' z
theorem PostB.after {b : Bool} {Q : Bool → Shared → Prop} (p : PostB h₁ T ρ H' s b Q) (st : Stp [] ρ s.heap ρ₁ hp₁) : PostB h₁ T ρ₁ H' { s with heap := hp₁, toks := tk₁ } b Q :=
  fun ρ' h' tk st' S' => p ρ' h' tk (st.trans st' (fun _ m => nomatch m)) S'
theorem LR.ev {h : Heap} (l : LR ρ L env h) (R : ER ρ E env) (st : Stp [] ρ h ρ₁ hp₁) : LR ρ₁ L env hp₁ := l.step R st (fun m => nomatch m)

theorem ev_int {i : Int} {k : Nat} {pos : Pos} : EvS prog w h₁ T E L (.Constant (.int i) k pos) H (.int i) H := fun _ S _ _ Q p => by
  rw [eval_Constant]
  exact wpAny_mkInt (p.here S ⟨_, rfl⟩ _)
theorem ev_str {x : Str} {k : Nat} {pos : Pos} : EvS prog w h₁ T E L (.Constant (.str x) k pos) H (.str x) H := fun _ S _ _ Q p => by
  rw [eval_Constant]
  exact wpAny_mkText (p.here S ⟨_, rfl⟩ _)
theorem ev_bool {b : Bool} {k : Nat} {pos : Pos} : EvS prog w h₁ T E L (.Constant (.bool b) k pos) H (.bool b) H := fun _ S _ _ Q p => by
  rw [eval_Constant]
  exact wpAny_pure (p.here' S rfl)
theorem ev_none {k : Nat} {pos : Pos} : EvS prog w h₁ T E L (.Constant .none k pos) H .none H := fun _ S _ _ Q p => by
  rw [eval_Constant]
  exact wpAny_pure (p.here' S rfl)
theorem kind_of {x : Str} {u : CV} (h : getName T E L x H = some u) : ∃ k, kindIn E x = some k := by
  unfold getName at h
  cases hk : kindIn E x with
  | none => rw [hk] at h; cases h
  | some k => exact ⟨k, rfl⟩
theorem ev_Name (B : Bs h₁ T mg mb) {x : Str} {pos : Pos} (h : getName T E L x H = some v) : EvS prog w h₁ T E L (.Name x pos) H v H := fun _ S R l Q p => by
  obtain ⟨k, hk⟩ := kind_of h
  exact wpAny_Name (nm_load B h S R l fun y z => p.here' S z) (R.ne hk R.nodbg)
variable {H1 H2 : CH} {a b : CV} {x y t : Expr} {pos : Pos}
theorem ev_BinOp {op : Operator} (e1 : EvS prog w h₁ T E L x H a H1) (e2 : EvS prog w h₁ T E L y H1 b H2) (e : binop op a b H2 = some (v, H')) : EvS prog w h₁ T E L (.BinOp x op y pos) H v H' := fun ok S R l Q p =>
  wpAny_BinOp (e1 ok S R l fun _ _ _ _ st1 S1 v1 => e2 ok S1 (R.step st1 l.lt) (l.ev R st1) fun _ _ _ _ st2 S2 v2 => bin_ok e S2 (v1.mono st2.pre) v2 ((p.after st1).after st2))
theorem ev_USub {i : Int} (e1 : EvS prog w h₁ T E L x H (.int i) H1) : EvS prog w h₁ T E L (.UnaryOp .USub x pos) H (.int (-i)) H1 := fun ok S R l Q p => by
  rw [arm_eval_UnaryOp]
  refine wpAny_bind (e1 ok S R l fun ρ1 x1 h1 t1 st1 S1 v1 => wpAny_bind (wpAny_standAt (wpAny_holding ?_)))
  obtain ⟨t, rfl⟩ := v1
  exact neg_int ((p.after st1).here S1 ⟨_, rfl⟩ _)
theorem arm_or (x y : Expr) (env : Env) : eval (.BoolOp .Or [x, y] pos) env = (eval x env >>= fun v => standAt pos >>= fun _ => holding [v] (truthy v) >>= fun t => match BoolOp.Or, t with | .And, false | .Or, true => pure v | _, _ => eval y env) := by
  rw [arm_eval_BoolOp]
  rfl
theorem ev_OrT (e1 : EvS prog w h₁ T E L x H a H1) (ht : truth a = some true) : EvS prog w h₁ T E L (.BoolOp .Or [x, y] pos) H a H1 := fun ok S R l Q p => by
  rw [arm_or]
  exact wpAny_bind (e1 ok S R l fun _ _ _ _ st1 S1 v1 => wpAny_bind (wpAny_standAt (wpAny_bind (wpAny_holding (truth_ok ht v1 fun tk => wpAny_pure ((p.after st1).here S1 v1 tk))))))
theorem ev_OrF (e1 : EvS prog w h₁ T E L x H a H1) (ht : truth a = some false) (e2 : EvS prog w h₁ T E L y H1 b H2) : EvS prog w h₁ T E L (.BoolOp .Or [x, y] pos) H b H2 := fun ok S R l Q p => by
  rw [arm_or]
  exact wpAny_bind (e1 ok S R l fun _ _ _ _ st1 S1 v1 => wpAny_bind (wpAny_standAt (wpAny_bind (wpAny_holding (truth_ok ht v1 fun tk => e2 ok S1 (R.step st1 l.lt) (l.ev R st1) (p.after st1))))))
end
end Mine
end

section
set_option maxRecDepth 100000
set_option linter.unusedVariables false
set_option autoImplicit false
namespace Mine
open PySem PySem.W PyProof.Rows PySem.SeqAt
section
variable {prog : Program} {w : World} {h₁ : Heap} {T : Txt} {mg mb : Str → Option Value} {A : Around} {ρ ρ₁ : List Addr} {E : CE} {L : CL} {H H' : CH} {env : Env} {s : Shared} {a b v : CV} {x y : Value} {Q : Value → Shared → Prop} {hp₁ : Heap} {tk₁ : Nat}
theorem eqAt_refl (A : Around) (s : Shared) (x : Value) : EqAt A s x x true := fun prog w E Q h => by
  unfold eqBool
  refine wpAny_holding ?_
  have : (x == x) = true := beq_self_eq_true x
  simp only [this, if_true]
  exact wpAny_bind (wpAny_rule (wpAny_pure h))
theorem lists_cmp {op : CmpOp} (hop : op = .Eq ∨ op = .NotEq) {m n : Nat} {xs ys : List CV} {z : Bool} (hm : H[m]? = some (.list xs)) (hn : H[n]? = some (.list ys)) (e : sameObj (.list xs) (.list ys) = some z) (hu : A.units < cLine)
    (S : SR h₁ T ρ H s.heap) (ha : VR ρ (.loc m) x) (hb : VR ρ (.loc n) y) (q : Q (.bool (if op = .Eq then z else !z)) s) : wpAny (model prog w) A (compareOp op x y) Q Fx s := by
  obtain ⟨a1, ea, rfl⟩ := ha
  obtain ⟨b1, eb, rfl⟩ := hb
  obtain ⟨vs, k, gv, rv⟩ := S.obj _ _ a1 hm ea
  obtain ⟨us, k', gu, ru⟩ := S.obj _ _ b1 hn eb
  have il : s.heap.IsList a1 vs.toArray := ⟨_, gv, rfl, _, rfl⟩
  have iu : s.heap.IsList b1 us.toArray := ⟨_, gu, rfl, _, rfl⟩
  simp only [sameObj] at e
  split at e
  · rename_i hne
    cases e
    have hz : (vs.toArray.size != us.toArray.size) = true := by rw [rv.isList, ru.isList]; simpa using hne
    rcases hop with rfl | rfl
    · exact RcAt.lists_lengths il iu hz hu prog w _ _ (by simpa using q)
    · exact RcNeAt.lists_lengths il iu hz hu prog w _ _ (by simpa using q)
  · rename_i hlen
    have key : ∀ e : Nat → Bool, (∀ j (h1 : j < vs.toArray.size) (h2 : j < us.toArray.size), EqAt A.in1 s vs.toArray[j] us.toArray[j] (e j)) → (List.range vs.toArray.size).all e = z →
        wpAny (model prog w) A (compareOp op (.ref a1) (.ref b1)) Q Fx s := by
      intro e he hz
      have hsz : vs.toArray.size = us.toArray.size := by rw [rv.isList, ru.isList]; simpa using hlen
      rcases hop with rfl | rfl
      · exact RcAt.lists il iu hsz hu he prog w _ _ (by rw [hz]; simpa using q)
      · exact RcNeAt.lists il iu hsz hu he prog w _ _ (by rw [hz]; simpa using q)
    split at e
    · cases e
      cases rv
      exact key (fun _ => true) (fun j h1 => absurd h1 (by simp)) (by simp)
    · split at e
      · rename_i hmn
        cases e
        subst hmn
        cases rv with
        | cons h1 r1 =>
          cases r1
          cases ru with
          | cons h2 r2 =>
            cases r2
            obtain ⟨c1, q1, rfl⟩ := h1
            obtain ⟨c2, q2, rfl⟩ := h2
            rw [q1] at q2
            cases q2
            refine key (fun _ => true) (fun j hj1 hj2 => ?_) (by simp)
            have : j = 0 := by simpa using hj1
            subst this
            exact eqAt_refl _ _ _
      · cases e
    · cases e
/-- two dicts of ints, alike: not unequal -/
noncomputable def DictNe (prog : Program) (w : World) (A : Around) : Prop := ∀ {s : Shared} {a b : Addr} {es fs : List DictEntry} {n k : Nat} {x y : List (Int × Int)} {Q : Value → Shared → Prop}, s.heap.get? a = some ⟨.type "dict", none, .dict es.toArray n, #[]⟩ →
  s.heap.get? b = some ⟨.type "dict", none, .dict fs.toArray k, #[]⟩ → DRs x es → DRs y fs → (x.map (·.1)).Nodup → (y.map (·.1)).Nodup → (a == sysModules) = false → (b == sysModules) = false → A.units < cLine → sameTable x y = true → (∀ tk, Q (.bool false) { s with toks := tk }) → wpAny (model prog w) A (compareOp .NotEq (.ref a) (.ref b)) Q Fx s
theorem hits_of {A : Around} {y : List (Int × Int)} {us : List (Int × Value)} (l : ∀ k : Int, (y.lookup k = none → valueAt us k = none) ∧ ∀ v : Int, y.lookup k = some v → ∃ u : Tok, valueAt us k = some (Value.int v u)) :
    ∀ {x : List (Int × Int)} {es : List DictEntry} {vs : List (Int × Value)}, DRs x es → Pairs (intKind prog w) es vs → (x.all fun p => y.lookup p.1 == some p.2) = true → KeqHits A s us vs true := by
  intro x es vs d
  induction d generalizing vs with
  | nil => intro p _; cases p; exact .nil
  | @cons k v t u r es d ih =>
    intro p h
    cases p with
    | @cons e kv es kvs h1 h2 p =>
      obtain ⟨k', v'⟩ := kv
      rw [List.all_cons, Bool.and_eq_true] at h
      have hk : k' = k := (intKind prog w).inj _ _ _ h1 (by simp [intKind, Value.isInt])
      subst hk
      dsimp only at h2
      subst h2
      have hl : y.lookup k' = some v := by simpa using h.1
      obtain ⟨u', hu⟩ := (l k').2 v hl
      have key := KeqHits.hit (kb := us) (A := A) (s := s) (e := true) (v := .int v u) hu (fun prog w E Q h => by
        refine wpAny_eqBool_int ?_
        simpa using h) (ih p h.2)
      exact key
theorem dictNe : DictNe prog w A := by
  intro s a b es fs n k x y Q ga gb dx dy nx ny na nb hu ht q
  obtain ⟨vs, p1, _, _, lx⟩ := dx.pairs (prog := prog) (w := w)
  obtain ⟨vs', da, lenx, _, _⟩ := dx.dictAt (prog := prog) (w := w) ga nx
  obtain ⟨us, db, leny, _, ly⟩ := dy.dictAt (prog := prog) (w := w) gb ny
  obtain ⟨_, _, g', _, hd', _, pr', _⟩ := id da
  unfold sameTable at ht
  rw [Bool.and_eq_true] at ht
  have hl : (vs'.length == us.length) = true := by rw [lenx, leny]; exact ht.1
  have pe : Pairs (intKind prog w) es vs' := by
    rw [ga] at g'
    cases g'
    cases hd'
    simpa using pr'
  refine keq_ne (knd := intKind prog w) (r := true) na nb (DictAt_of da) (DictAt_of db) hu (fun _ => hits_of ly dx pe ht.2) ?_
  rw [hl]
  exact q s.toks
theorem SR.notMod (S : SR h₁ T ρ H s.heap) {d : Addr} {n : Nat} (ed : ρ[n]? = some d) : (d == sysModules) = false :=
  beq_eq_false_iff_ne.mpr fun z => S.nolow (by rw [z]; decide) (List.mem_of_getElem? ed)
theorem dicts_ne (hD : DictNe prog w A) (hu : A.units < cLine) {m n : Nat} {a1 b1 : Addr} {xs ys : List (Int × Int)} {i j : Nat} (S : SR h₁ T ρ H s.heap) (e1 : H[m]? = some (.dict xs i)) (e2 : H[n]? = some (.dict ys j)) (ea : ρ[m]? = some a1) (eb : ρ[n]? = some b1) (ht : sameTable xs ys = true) (q : ∀ tk, Q (.bool false) { s with toks := tk }) :
    wpAny (model prog w) A (compareOp .NotEq (.ref a1) (.ref b1)) Q Fx s := by
  obtain ⟨es, ge, re, ne⟩ := S.obj _ _ a1 e1 ea
  obtain ⟨fs, gf, rf, nf⟩ := S.obj _ _ b1 e2 eb
  exact hD ge gf re rf ne nf (S.notMod ea) (S.notMod eb) hu ht q
/-- what two objects, alike, may be -/
theorem sameObj_inv {P : Prop} {o1 o2 : CO} {z : Bool} (h : sameObj o1 o2 = some z) (k1 : ∀ xs ys, o1 = .list xs → o2 = .list ys → P) (k2 : ∀ x i y j, o1 = .dict x i → o2 = .dict y j → sameTable x y = true → z = true → P) : P := by
  cases o1 with
  | list xs => cases o2 <;> first | exact k1 _ _ rfl rfl | cases h
  | dict x i =>
    cases o2 with
    | dict y j =>
      by_cases ht : sameTable x y = true
      · exact k2 _ _ _ _ rfl rfl ht (Option.some.inj ((if_pos ht).symm.trans h)).symm
      · cases (if_neg ht).symm.trans h
    | _ => cases h
  | _ => cases h
theorem cmpEq_inv {P : Prop} {m n : Nat} {z : Bool} (h : cmpop .Eq (.loc m) (.loc n) H = some z) (k : ∀ xs ys, H[m]? = some (.list xs) → H[n]? = some (.list ys) → sameObj (.list xs) (.list ys) = some z → P) : P := by
  simp only [cmpop] at h
  split at h
  · rename_i e1 e2; exact k _ _ e1 e2 h
  · cases h
theorem cmpNe_inv {P : Prop} {m n : Nat} {z : Bool} (h : cmpop .NotEq (.loc m) (.loc n) H = some z) (k : ∀ x y z', H[m]? = some x → H[n]? = some y → sameObj x y = some z' → z = !z' → P) : P := by
  simp only [cmpop] at h
  split at h
  · rename_i o1 o2 e1 e2
    cases hz : sameObj o1 o2 with
    | none => rw [hz] at h; cases h
    | some z' => rw [hz] at h; exact k _ _ _ e1 e2 hz (Option.some.inj h).symm
  · cases h
theorem cmp_ok (hD : DictNe prog w A) {op : CmpOp} {z : Bool} (e : cmpop op a b H = some z) (hu : A.units < cLine) (S : SR h₁ T ρ H s.heap) (ha : VR ρ a x) (hb : VR ρ b y) (q : ∀ tk, Q (.bool z) { s with toks := tk }) :
    wpAny (model prog w) A (compareOp op x y) Q Fx s := by
  by_cases hl : ∃ m n, a = .loc m ∧ b = .loc n
  · obtain ⟨m, n, rfl, rfl⟩ := hl
    cases op with
    | Eq => exact cmpEq_inv e fun xs ys e1 e2 e => lists_cmp (.inl rfl) e1 e2 e hu S ha hb (q s.toks)
    | NotEq =>
      refine cmpNe_inv e fun o1 o2 z' e1 e2 hz e => sameObj_inv hz (fun xs ys h1 h2 => ?_) fun xs i ys j h1 h2 ht h3 => ?_
      · subst h1 h2 e
        exact lists_cmp (.inr rfl) e1 e2 hz hu S ha hb (q s.toks)
      · subst h1 h2 h3 e
        obtain ⟨a1, ea, rfl⟩ := ha
        obtain ⟨b1, eb, rfl⟩ := hb
        exact dicts_ne hD hu S e1 e2 ea eb ht q
    | _ => cases e
  · exact cmp_plain S e ha hb (fun m n h => hl ⟨m, n, h⟩) q
theorem rel_ok {M : Model} {E' : Value → Shared → Prop} {vs ks : List Value} {Q : Unit → Shared → Prop} (h : Q () s) : wpAny M A (release vs ks) Q E' s := fun Γ p hΓ => by rw [Sem.wp_release]; exact h
theorem OkA.line {lv : Nat} (ok : OkA lv A) : A.units < cLine := by have := ok.units; unfold cLine; (first | lia | omega)
end
section
variable {prog : Program} {w : World} {h₁ : Heap} {T : Txt} {mg mb : Str → Option Value} {A : Around} {ρ ρ₁ : List Addr} {E : CE} {L : CL} {H H' : CH} {env : Env} {s : Shared} {v : CV} {Q : Value → Shared → Prop} {hp₁ : Heap} {tk₁ : Nat}
theorem notSet {x : Expr} (h : isSet x = false) (op : CmpOp) : behindInMarks op x = false := by cases x <;> first | rfl | cases h
variable {H1 H2 H3 : CH} {a b c : CV} {x y z : Expr} {op op' : CmpOp} {pos : Pos} {z1 z2 : Bool}
variable (hD : ∀ {A : Around}, DictNe prog w A)
include hD
theorem ev_Compare1 (hs : isSet y = false) (e1 : EvS prog w h₁ T E L x H a H1) (e2 : EvS prog w h₁ T E L y H1 b H2) (hz : cmpop op a b H2 = some z1) : EvS prog w h₁ T E L (.Compare x [op] [y] pos) H (.bool z1) H2 := fun ok S R l Q p =>
  wpAny_Compare1 (e1 ok S R l fun _ _ _ _ st1 S1 v1 => e2 ok S1 (R.step st1 l.lt) (l.ev R st1) fun _ _ _ _ st2 S2 v2 =>
    cmp_ok hD hz ok.line S2 (v1.mono st2.pre) v2 fun tk => ((p.after st1).after st2).here S2 rfl tk) (notSet hs op)
theorem ev_Compare2 (hs : isSet z = false) (e1 : EvS prog w h₁ T E L x H a H1) (e2 : EvS prog w h₁ T E L y H1 b H2) (hz : cmpop op a b H2 = some true) (e3 : EvS prog w h₁ T E L z H2 c H3) (hz2 : cmpop op' b c H3 = some z2) :
    EvS prog w h₁ T E L (.Compare x [op, op'] [y, z] pos) H (.bool z2) H3 := fun ok S R l Q p => by
  rw [arm_eval_Compare]
  show wpAny _ _ (eval x _ >>= fun a => compareChain pos a [op, op'] [eval y _, markedBehindIn op' z (eval z _)]) Q Fx _
  rw [markedBehindIn_of_false (notSet hs op')]
  exact wpAny_bind (e1 ok S R l fun ρ1 x1 h1 t1 st1 S1 v1 => wpAny_bind (wpAny_holding (e2 ok S1 (R.step st1 l.lt) (l.ev R st1) fun ρ2 x2 h2 t2 st2 S2 v2 => wpAny_bind (wpAny_standAt
    (wpAny_bind (wpAny_holding (cmp_ok hD hz ok.line S2 (v1.mono st2.pre) v2 fun tk => wpAny_bind (rel_ok (wpAny_bind (wpAny_holding (wpAny_truthy_bool
      (wpAny_bind (wpAny_holding (e3 ok S2 ((R.step st1 l.lt).step st2 (l.ev R st1).lt) ((l.ev R st1).ev (R.step st1 l.lt) st2) fun _ _ _ _ st3 S3 v3 => wpAny_bind (wpAny_standAt (wpAny_operating
        (cmp_ok hD hz2 ok.line S3 (v2.mono st3.pre) v3 fun tk => (((p.after st1).after st2).after st3).here S3 rfl tk)))))))))))))))))
end
end Mine
end

section
set_option maxRecDepth 100000
set_option linter.unusedVariables false
set_option autoImplicit false
namespace Mine
open PySem PySem.W PyProof.Rows PySem.SeqAt
section
variable {prog : Program} {w : World} {h₁ : Heap} {T : Txt} {mg mb : Str → Option Value} {A : Around} {ρ ρ₁ : List Addr} {E : CE} {L : CL} {H H' : CH} {env : Env} {s : Shared} {v : CV} {Q : Value → Shared → Prop} {hp₁ : Heap} {tk₁ : Nat}
theorem star_cons {e : Expr} {es : List Expr} (h : notStar e = true) : starEach (e :: es) env = (false, eval e env) :: starEach es env := by cases e <;> first | rfl | cases h
noncomputable def PostL (h₁ : Heap) (T : Txt) (ρ : List Addr) (H' : CH) (s : Shared) (vs : List CV) (Q : List Value → Shared → Prop) : Prop :=
  ∀ ρ' xs h' tk, Stp [] ρ s.heap ρ' h' → SR h₁ T ρ' H' h' → VRs ρ' vs xs → Q xs { s with heap := h', toks := tk }
theorem PostL.after {vs : List CV} {Q : List Value → Shared → Prop} (p : PostL h₁ T ρ H' s vs Q) (st : Stp [] ρ s.heap ρ₁ hp₁) : PostL h₁ T ρ₁ H' { s with heap := hp₁, toks := tk₁ } vs Q :=
  fun ρ' x h' tk st' S' z => p ρ' x h' tk (st.trans st' (fun _ m => nomatch m)) S' z
theorem evs_ok (ok : OkA E.lv A) {pos : Pos} {es : List Expr} {vs : List CV} {ρ : List Addr} {H : CH} {s : Shared} {Q : List Value → Shared → Prop} (h : EsS prog w h₁ T E L es H vs H') (S : SR h₁ T ρ H s.heap) (R : ER ρ E env) (l : LR ρ L env s.heap)
    (p : PostL h₁ T ρ H' s vs Q) : wpAny (model prog w) A (spliced (backTo pos (starEach es env))) Q Fx s := by
  induction h generalizing ρ s Q with
  | nil => exact Calls.spliced_nil (p ρ [] s.heap s.toks (Stp.refl ..) S .nil)
  | cons hn e1 _ ih =>
    rw [star_cons hn]
    exact Calls.spliced_cons (e1 ok S R l fun ρ1 x1 h1 t1 st1 S1 v1 => ih S1 (R.step st1 l.lt) (l.ev R st1) fun ρ2 xs h2 t2 st2 S2 v2 =>
      p ρ2 _ h2 t2 (st1.trans st2 (fun _ m => nomatch m)) S2 (.cons (v1.mono st2.pre) v2))
variable {H1 : CH} {es : List Expr} {vs : List CV} {pos : Pos}
theorem ev_List (e : EsS prog w h₁ T E L es H vs H1) (hz : vs.length ≤ 1000) : EvS prog w h₁ T E L (.List es pos) H (.loc H1.length) (H1 ++ [.list vs]) := fun ok S R l Q p => by
  rw [arm_eval_List]
  refine wpAny_bind (wpAny_standAt (wpAny_bind (evs_ok ok e S R l fun ρ1 xs h1 t1 st1 S1 v1 => ?_)))
  unfold newList
  exact wpAny_newObj_type ((p.after st1).newly S1 (fun z => nomatch z) ⟨xs, 0, Heap.get?_push_size _ rfl, v1.mono (List.prefix_append _ _)⟩ t1) (show xs.toArray.size ≤ sizeLine from v1.isList ▸ Nat.le_trans hz (by decide))
theorem ev_Tuple {k : Nat} (e : EsS prog w h₁ T E L es H vs H1) (hz : vs.length ≤ 1000) : EvS prog w h₁ T E L (.Tuple es k pos) H (.loc H1.length) (H1 ++ [.tup vs]) := fun ok S R l Q p => by
  rw [arm_eval_Tuple]
  refine wpAny_bind (wpAny_standAt (wpAny_bind (evs_ok ok e S R l fun ρ1 xs h1 t1 st1 S1 v1 => ?_)))
  unfold newTuple
  exact wpAny_newObj_type ((p.after st1).newly S1 (fun z => nomatch z) ⟨xs, 0, Heap.get?_push_size _ rfl, v1.mono (List.prefix_append _ _)⟩ t1) (show xs.toArray.size ≤ sizeLine from v1.isList ▸ Nat.le_trans hz (by decide))
end
end Mine
end

section
set_option maxRecDepth 100000
set_option linter.unusedVariables false
set_option autoImplicit false
namespace Mine
open PySem PySem.W PyProof.Rows PySem.SeqAt
section
variable {prog : Program} {w : World} {h₁ : Heap} {T : Txt} {mg mb : Str → Option Value} {A : Around} {ρ ρ₁ : List Addr} {E : CE} {L : CL} {H H' : CH} {env : Env} {s : Shared} {a i v : CV} {x y : Value} {Q : Value → Shared → Prop} {hp₁ : Heap} {tk₁ : Nat}
theorem idx_at {n : Nat} {k : Int} {j : Nat} (e : idx n k = some j) : seqIndex? k n = some j ∧ -(1000 : Int) ≤ k ∧ k < 1000 := by
  unfold idx at e
  split at e
  · cases e
  split at e
  · split at e
    · cases e; exact ⟨seqIndex_of (by (first | lia | omega)) (by (first | lia | omega)), by (first | lia | omega), by (first | lia | omega)⟩
    · cases e
  · split at e
    · cases e; exact ⟨PySem.seqIndex_neg (by (first | lia | omega)) (by (first | lia | omega)), by (first | lia | omega), by (first | lia | omega)⟩
    · cases e
theorem item_ok {value slice : Expr} (e : getItem a i H = some v) (hs : ∀ o k : Value, subscripted slice false o k = operate [o, k] (PySem.getItem o k)) (S : SR h₁ T ρ H s.heap) (ha : VR ρ a x) (hi : VR ρ i y) (p : PostV h₁ T ρ H s v Q) :
    wpAny (model prog w) A (subscriptTail value slice x y) Q Fx s := by
  refine i_item e (fun m xs k h1 h2 hm h0 hz e5 => ?_) (fun m xs k h1 h2 hm h0 hz e5 => ?_) fun c k j cp h1 h2 hj hcp h3 => ?_
  · subst h1 h2
    obtain ⟨a1, ea, rfl⟩ := ha
    obtain ⟨u, rfl⟩ := hi
    obtain ⟨vs, n, gv, rv⟩ := S.obj _ _ a1 hm ea
    obtain ⟨z, hz', rz⟩ := rv.get e5
    have hlt : k.toNat < xs.length := (List.getElem?_eq_some_iff.mp e5).1
    exact tail_any (typeIs_list gv) slot_list_getitem.lookup (wpAny_getItem_list (x := z) ⟨_, gv, rfl, _, rfl⟩ h0 (by (first | lia | omega)) (by simpa using hz') (p.here' S rz)) (hs _ _)
  · subst h1 h2
    obtain ⟨a1, ea, rfl⟩ := ha
    obtain ⟨u, rfl⟩ := hi
    obtain ⟨vs, n, gv, rv⟩ := S.obj _ _ a1 hm ea
    obtain ⟨z, hz', rz⟩ := rv.get e5
    have hlt : k.toNat < xs.length := (List.getElem?_eq_some_iff.mp e5).1
    exact tail_any (typeIs_list gv) slot_tuple_getitem.lookup (PyProof.Rows.getItem_tuple (x := z) ⟨_, gv, rfl, _, rfl⟩ (by (first | lia | omega)) (by (first | lia | omega)) (seqIndex_of h0 (by rw [rv.isList]; (first | lia | omega))) (by simpa using hz') (p.here' S rz)) (hs _ _)
  · subst h1 h2 h3
    obtain ⟨t, rfl⟩ := ha
    obtain ⟨u, rfl⟩ := hi
    obtain ⟨h1, h2, h3⟩ := idx_at hj
    exact tail_any (typeIs_str s _ t) F.slot_str_getitem.lookup (P.getItem_str (c := cp) (by simp; (first | lia | omega)) (Option.bind_eq_some_iff.mpr ⟨_, h1, hcp⟩) (p.here S ⟨_, rfl⟩ _)) (hs _ _)
/-- a part of a cut -/
inductive OpS (prog : Program) (w : World) (h₁ : Heap) (T : Txt) (E : CE) (L : CL) : Option Expr → CH → CV → CH → Prop
  | none {H : CH} : OpS prog w h₁ T E L none H .none H
  | some {e : Expr} {H : CH} {v : CV} {H' : CH} : EvS prog w h₁ T E L e H v H' → OpS prog w h₁ T E L (some e) H v H'
theorem evOpt_ok (ok : OkA E.lv A) {o : Option Expr} (e : OpS prog w h₁ T E L o H v H') (S : SR h₁ T ρ H s.heap) (R : ER ρ E env) (l : LR ρ L env s.heap) (p : PostV h₁ T ρ H' s v Q) : wpAny (model prog w) A (evalPart o env) Q Fx s := by
  cases e with
  | none => exact evalPart_none_step (p.here' S rfl)
  | some e => exact evalPart_some_step (e ok S R l p)
theorem part_of {k : Option Int} (e : sPart a = some k) (h : VR ρ a x) : IsPart x k ∧ ∃ o : Option (Int × Tok), x = partValue o ∧ o.map (·.1) = k := by
  cases a with
  | none => cases e; cases h; exact ⟨.none, none, rfl, rfl⟩
  | int i => cases e; obtain ⟨t, rfl⟩ := h; exact ⟨.int i t, some (i, t), rfl, rfl⟩
  | _ => cases e
theorem slice_ok {value slice : Expr} {b c : CV} {x2 x3 : Value} (e : getSlice a b c H = some (v, H')) (hs : ∀ o k : Value, subscripted slice false o k = operate [k, o] (PySem.getItem o k)) (S : SR h₁ T ρ H s.heap) (ha : VR ρ a x) (hb : VR ρ b x2) (hc : VR ρ c x3) (p : PostV h₁ T ρ H' s v Q) :
    wpAny (model prog w) A (subscriptTail value slice x (.ref s.heap.objs.size)) Q Fx { s with heap := s.heap.push { cls := .type "slice", data := .fields #[x2, x3, .none] } } := by
  refine i_slice e (fun d klo khi h1 q1 q2 hz h2 h3 => ?_) fun m xs k h1 q1 q2 hm h0 hz h2 h3 => ?_
  · subst h1 h2 h3
    obtain ⟨-, ol, el, ml⟩ := part_of q1 hb
    obtain ⟨-, ou, eu, mu⟩ := part_of q2 hc
    obtain ⟨t, rfl⟩ := ha
    subst el eu
    refine tail_any (typeIs_str _ _ t) F.slot_str_getitem.lookup (wpAny_getItem_str_slice (l := ol) (u := ou) (st := none) ⟨_, Heap.get?_push_size _ rfl, rfl, rfl⟩ rfl (post_val_or_str ⟨?_, fun t' k => ?_⟩)) (hs _ _)
    · have z := Txt.slice_le d klo khi
      rw [← ml, ← mu] at z
      exact Nat.le_trans z (Nat.le_trans hz (by decide))
    · refine p ρ _ _ k (Stp.push _ _) (S.push _) ⟨t', ?_⟩
      rw [← ml, ← mu]
      rfl
  · subst h1 h2 h3
    obtain ⟨pl, -⟩ := part_of q1 hb
    obtain ⟨pu, -⟩ := part_of q2 hc
    obtain ⟨a1, ea, rfl⟩ := ha
    obtain ⟨vs, n, gv, rv⟩ := S.obj _ _ a1 hm ea
    have gv' := Heap.get?_push_of_some { cls := .type "slice", data := .fields #[x2, x3, .none] } gv
    obtain ⟨j, rfl⟩ := Int.eq_ofNat_of_zero_le h0
    refine tail_any (T := "list") ⟨_, gv', rfl⟩ slot_list_getitem.lookup (wpAny_getItem_list_slice (lo := none) (hi := some _) (st := none) (vs := .none) ⟨_, gv', rfl, _, rfl⟩ (Heap.IsSliceOf.new ..) pl pu .none (by simp) ?_ ?_) (hs _ _)
    · refine (p.after (tk₁ := s.toks) (Stp.push s.heap _)).newly (S.push _) (fun z => nomatch z) ⟨vs.take j, 0, ?_, (rv.take _).mono (List.prefix_append _ _)⟩ s.toks
      rw [Heap.get?_push_size _ rfl]
      have z := slicePick_upto' vs.toArray j
      rw [z]
    · rw [rv.isList]; exact Nat.le_trans hz (by decide)
theorem sub_plain {i : Expr} (h : sliceOf i = none) (o k : Value) : subscripted i false o k = operate [o, k] (PySem.getItem o k) := by
  unfold sliceOf at h
  cases i <;> first | rfl | (rename_i a b c d; cases c <;> first | rfl | cases h)
variable {H1 H2 H3 : CH} {b c k : CV} {o sl : Expr} {pos : Pos}
theorem ev_cut {lo hi : Option Expr} {q : Pos} (e1 : EvS prog w h₁ T E L o H a H1) (e2 : OpS prog w h₁ T E L lo H1 b H2) (e3 : OpS prog w h₁ T E L hi H2 c H3) (e4 : getSlice a b c H3 = some (v, H')) : EvS prog w h₁ T E L (.Subscript o (.Slice lo hi none q) pos) H v H' := by
  intro A ρ env s ok S R l Q p
  refine Subscript_ (e1 ok S R l fun ρ1 x1 h1 t1 st1 S1 v1 => ?_)
  have R1 := R.step st1 l.lt
  have l1 := l.ev R st1
  refine wpAny_Slice (evOpt_ok ok e2 S1 R1 l1 fun ρ2 x2 h2 t2 st2 S2 v2 => ?_)
  refine evOpt_ok ok e3 S2 (R1.step st2 l1.lt) (l1.ev R1 st2) fun ρ3 x3 h3 t3 st3 S3 v3 => evalPart_none_step ?_
  exact slice_ok (s := { s with heap := h3, toks := t3 }) e4 (fun _ _ => rfl) S3 ((v1.mono st2.pre).mono st3.pre) (v2.mono st3.pre) v3 (((p.after (tk₁ := t1) st1).after (tk₁ := t2) st2).after (tk₁ := t3) st3)
theorem ev_sub (hs : sliceOf sl = none) (e1 : EvS prog w h₁ T E L o H a H1) (e2 : EvS prog w h₁ T E L sl H1 k H2) (e : getItem a k H2 = some v) : EvS prog w h₁ T E L (.Subscript o sl pos) H v H2 := fun ok S R l Q p =>
  Subscript_ (e1 ok S R l fun _ _ _ _ st1 S1 v1 => e2 ok S1 (R.step st1 l.lt) (l.ev R st1) fun _ _ _ _ st2 S2 v2 => item_ok e (sub_plain hs) S2 (v1.mono st2.pre) v2 ((p.after st1).after st2))
end
end Mine
end

section
set_option maxRecDepth 100000
set_option linter.unusedVariables false
set_option autoImplicit false
namespace Mine
open PySem PySem.W PyProof.Rows PySem.SeqAt
section
variable {prog : Program} {w : World} {h₁ : Heap} {T : Txt} {mg mb : Str → Option Value} {A : Around} {ρ ρ₁ : List Addr} {E : CE} {L : CL} {H H' : CH} {env : Env} {s : Shared} {b : Bool} {Q : Bool → Shared → Prop} {hp₁ : Heap} {tk₁ : Nat}
theorem isTrue_plain {e : Expr} (h : plainTest e = true) (whole : Sem Value) : isTrue e env whole = (do let v ← whole; standAt e.pos; holding [v] (truthy v)) := by
  cases e <;> first | rfl | cases h | (rename_i op _ _; cases op <;> first | rfl | cases h)
/-- the tests of a chain, one behind the other -/
inductive AtS (prog : Program) (w : World) (h₁ : Heap) (T : Txt) (op : BoolOp) (E : CE) (L : CL) : List Expr → CH → Bool → CH → Prop
  | nil {H : CH} : AtS prog w h₁ T op E L [] H (op == .And) H
  | stop {e : Expr} {es : List Expr} {H H1 : CH} : TsS prog w h₁ T E L e H (op != .And) H1 → AtS prog w h₁ T op E L (e :: es) H (op != .And) H1
  | go {e : Expr} {es : List Expr} {H H1 : CH} {b : Bool} {H2 : CH} : TsS prog w h₁ T E L e H (op == .And) H1 → AtS prog w h₁ T op E L es H1 b H2 → AtS prog w h₁ T op E L (e :: es) H b H2
theorem allTest_ok (ok : OkA E.lv A) {op : BoolOp} {es : List Expr} {ρ : List Addr} {H : CH} {s : Shared} (h : AtS prog w h₁ T op E L es H b H') (S : SR h₁ T ρ H s.heap) (R : ER ρ E env) (l : LR ρ L env s.heap) (p : PostB h₁ T ρ H' s b Q) :
    wpAny (model prog w) A (allTrue op es env) Q Fx s := by
  induction h generalizing ρ s with
  | nil =>
    rw [arm_allTrue_nil]
    exact wpAny_pure (p ρ s.heap s.toks (Stp.refl ..) S)
  | stop e1 =>
    rw [arm_allTrue_cons]
    refine wpAny_bind (e1 ok S R l fun ρ1 h1 t1 st1 S1 => ?_)
    cases op <;> exact wpAny_pure (p ρ1 h1 t1 st1 S1)
  | go e1 _ ih =>
    rw [arm_allTrue_cons]
    refine wpAny_bind (e1 ok S R l fun ρ1 h1 t1 st1 S1 => ?_)
    have k := ih S1 (R.step st1 l.lt) (l.ev R st1) (p.after (tk₁ := t1) st1)
    cases op <;> exact k
variable {H1 H2 : CH} {x y e : Expr} {u v : CV} {pos : Pos}
theorem ts_not (e1 : TsS prog w h₁ T E L x H b H1) : TsS prog w h₁ T E L (.UnaryOp .Not x pos) H (!b) H1 := fun ok S R l Q p => by
  rw [arm_isTrue_UnaryOp]
  exact wpAny_bind (e1 ok S R l fun ρ1 h1 t1 st1 S1 => wpAny_pure (p ρ1 h1 t1 st1 S1))
theorem ts_all {op : BoolOp} {es : List Expr} (h : AtS prog w h₁ T op E L es H b H') : TsS prog w h₁ T E L (.BoolOp op es pos) H b H' := fun ok S R l Q p => by
  rw [arm_isTrue_BoolOp]
  exact allTest_ok ok h S R l p
theorem ts_Compare (hD : ∀ {A : Around}, DictNe prog w A) {op : CmpOp} (hs : isSet y = false) (e1 : EvS prog w h₁ T E L x H u H1) (e2 : EvS prog w h₁ T E L y H1 v H2) (hz : cmpop op u v H2 = some b) : TsS prog w h₁ T E L (.Compare x [op] [y] pos) H b H2 := fun ok S R l Q p =>
  wpAny_isTrue_Compare1 (e1 ok S R l fun _ _ _ _ st1 S1 v1 => e2 ok S1 (R.step st1 l.lt) (l.ev R st1) fun ρ2 _ h2 _ st2 S2 v2 =>
    cmp_ok hD hz ok.line S2 (v1.mono st2.pre) v2 fun tk => wpAny_truthy_bool (p ρ2 h2 tk (st1.trans st2 (fun _ m => nomatch m)) S2)) (notSet hs _)
theorem ts_of (hp : plainTest e = true) (e1 : EvS prog w h₁ T E L e H v H1) (ht : truth v = some b) : TsS prog w h₁ T E L e H b H1 := fun ok S R l Q p => by
  rw [isTrue_plain hp]
  exact wpAny_bind (e1 ok S R l fun ρ1 _ h1 _ st1 S1 v1 => wpAny_bind (wpAny_standAt (wpAny_holding (truth_ok ht v1 fun tk => p ρ1 h1 tk st1 S1))))
/-- a choice by a test -/
theorem ev_IfExp {t x y : Expr} (e1 : TsS prog w h₁ T E L t H b H1) (e2 : EvS prog w h₁ T E L (if b then x else y) H1 v H2) : EvS prog w h₁ T E L (.IfExp t x y pos) H v H2 := fun ok S R l Q p => by
  rw [arm_eval_IfExp]
  refine wpAny_bind (e1 ok S R l fun ρ1 h1 t1 st1 S1 => ?_)
  have q := e2 ok S1 (R.step st1 l.lt) (l.ev R st1) (p.after (tk₁ := t1) st1)
  cases b <;> exact q
end
end Mine
end

section
set_option maxRecDepth 100000
set_option linter.unusedVariables false
set_option autoImplicit false
namespace Mine
open PySem PySem.W PyProof.Rows
/-- an item of a list put anew: the object is as it was but for the item -/
theorem put_item {prog : Program} {w : World} {A : Around} {E : Value → Shared → Prop} {s : Shared} {l : Addr} {items : Array Value} {n : Nat} {k : Int} {t : Tok} {v : Value} {Q : Unit → Shared → Prop}
    (hl : s.heap.get? l = some { cls := .type "list", data := .seq items n }) (h0 : 0 ≤ k) (hfit : k < 2 ^ 63) (hk : k < items.size)
    (hQ : Q () { s with heap := s.heap.update l (Obj.mapSeq (·.setIfInBounds k.toNat v)) }) : wpAny (model prog w) A (setItem (.ref l) (.int k t) v) Q E s := by
  have hT : s.TypeIs (.ref l) "list" := ⟨_, hl, rfl⟩
  unfold setItem
  try with_reducible refine wpAny_holding ?_
  first | refine wpAny_bind (wpAny_pure ?_) | skip
  refine wpAny_bind (wpAny_sequenceKey hT (by decide) ?_)
  refine wpAny_bind (wpAny_callSpecial?_slot (name := Str.ofString "__setitem__") hT slot_list_setitem (wpAny_call_entry slot_list_setitem hT entry_list_setitem ?_ (args_list_setitem _ _ _)))
  show wpAny _ _ (Builtin.List.listSubscript? (.int k t) >>= _) _ _ s
  refine wpAny_bind (wpAny_listSubscript_int (fitsIndex_of h0 hfit) ?_)
  clear hfit
  obtain ⟨j, rfl⟩ := Int.eq_ofNat_of_zero_le h0
  have hj : j < items.size := by (first | lia | omega)
  have hx : items[j]? = some items[j] := Array.getElem?_eq_getElem hj
  show wpAny _ _ ((seqItemAt l j >>= fun r => pure (r.map (j, ·))) >>= _) _ _ s
  refine wpAny_bind (wpAny_bind (wpAny_seqItemAt hl rfl (wpAny_pure ?_)))
  rw [hx]
  show wpAny _ _ (setSeqItemAt l j v >>= _) _ _ s
  refine wpAny_bind (wpAny_setSeqItemAt hl rfl ?_)
  first
    | exact wpAny_bind (wpAny_pure (wpAny_pure ⟨.none, rfl, wpAny_pure hQ⟩))
    | exact wpAny_pure ⟨.none, rfl, wpAny_pure hQ⟩
section
variable {prog : Program} {w : World} {A : Around} {s : Shared}
theorem put_dict {E' : Value → Shared → Prop} {d : Addr} {kvs : List (Int × Int)} {es : List DictEntry} {n : Nat} {k : Int} {t : Tok} {v : Value} {Q : Unit → Shared → Prop}
    (hd : s.heap.get? d = some ⟨.type "dict", none, .dict (List.toArray es) n, #[]⟩) (rs : DRs kvs es) (hn : kvs.lookup k = none) (hz : kvs.length ≤ 1000)
    (hQ : ∀ h', h'.get? d = some ⟨.type "dict", none, .dict (List.toArray (es ++ [⟨hashInt k, .int k t, v⟩])) (n + 1), #[]⟩ → Heap.SameBut d s.heap h' → Q () { s with heap := h', toks := s.toks + 1 }) :
    wpAny (model prog w) A (dictSet d (.int k t) v) Q E' s := by
  unfold dictSet
  try with_reducible refine wpAny_holding ?_
  refine wpAny_bind (wpAny_pyHash_int ?_)
  unfold dictSetHashed
  try with_reducible refine wpAny_holding ?_
  refine wpAny_bind (wpAny_dictFind_int (s := { s with toks := s.toks + 1 }) hd rfl (fun e m => rs.keys e (by simpa using m)) ?_)
  have hi : ((List.toArray es).findIdx? fun e => Value.isInt k e.key) = none := Array.findIdx?_eq_none_iff.mpr fun e m => rs.off hn e (by simpa using m)
  rw [hi]
  refine wpAny_bind (wpAny_rule (wpAny_updateDictKeys (hz := ?_) (s := { s with toks := s.toks + 1 }) hd rfl (hQ _ ?_ (Heap.SameBut.update ..))))
  · rw [Heap.get?_update_self _ hd (Obj.isFreed_of_dict (Obj.data_mapDictKeys rfl _))]
    exact congrArg (fun z => some (⟨.type "dict", none, .dict z (n + 1), #[]⟩ : Obj)) (List.push_toArray ..)
  · have := rs.length
    show (List.toArray es).size ≤ sizeLine
    rw [List.size_toArray, this]
    exact Nat.le_trans hz (by decide)
theorem set_dict {E' : Value → Shared → Prop} {d : Addr} {kvs : List (Int × Int)} {es : List DictEntry} {n : Nat} {k : Int} {t : Tok} {v : Value} {Q : Unit → Shared → Prop}
    (hd : s.heap.get? d = some ⟨.type "dict", none, .dict (List.toArray es) n, #[]⟩) (rs : DRs kvs es) (hn : kvs.lookup k = none) (hz : kvs.length ≤ 1000)
    (hQ : ∀ h', h'.get? d = some ⟨.type "dict", none, .dict (List.toArray (es ++ [⟨hashInt k, .int k t, v⟩])) (n + 1), #[]⟩ → Heap.SameBut d s.heap h' → Q () { s with heap := h', toks := s.toks + 1 }) :
    wpAny (model prog w) A (setItem (.ref d) (.int k t) v) Q E' s := by
  have hT : s.TypeIs (.ref d) "dict" := ⟨_, hd, rfl⟩
  unfold setItem
  try with_reducible refine wpAny_holding ?_
  refine wpAny_bind (wpAny_sequenceKey hT (by decide) ?_)
  refine wpAny_bind (wpAny_callSpecial?_slot (name := Str.ofString "__setitem__") hT slot_dict_setitem
    (wpAny_call_entry slot_dict_setitem hT entry_dict_setitem ?_ (args_dict_setitem _ _ _)))
  show wpAny _ _ (Builtin.Dict.notOrdered "__setitem__" ⟨[.ref d, .int k t, v], []⟩ >>= _) _ _ s
  refine wpAny_bind (wpAny_notOrdered_dict hT ?_)
  show wpAny _ _ (dictSet d (.int k t) v >>= _) _ _ s
  exact wpAny_bind (put_dict hd rs hn hz fun h' g hs => wpAny_pure ⟨.none, rfl, wpAny_pure (hQ h' g hs)⟩)
end
section
variable {h₁ : Heap} {T : Txt} {ρ : List Addr} {H : CH} {h : Heap}
/-- a followed list changed in place -/
theorem SR.list_put (S : SR h₁ T ρ H h) {n : Nat} {xs ys : List CV} {a : Addr} {vs us : List Value} {k : Nat} {f : Array Value → Array Value} (e : H[n]? = some (.list xs)) (ea : ρ[n]? = some a) (hn : n ≠ 0)
    (g : h.get? a = some { cls := .type "list", data := .seq (List.toArray vs) k }) (hf : f (List.toArray vs) = List.toArray us) (ru : VRs ρ ys us) : SR h₁ T ρ (H.set n (.list ys)) (h.update a (Obj.mapSeq f)) := by
  have hs : Heap.SameBut a h (h.update a (Obj.mapSeq f)) := Heap.SameBut.update ..
  have up := IsL.update (x := g) f
  rw [hf] at up
  exact S.put e ea hn (by intro z; cases z) (by intro z; cases z) (fun b ob nb q => (hs.2 b nb).trans q) (Nat.le_of_eq hs.1.symm) ⟨us, _, up, ru⟩
theorem SR.dict_put (S : SR h₁ T ρ H h) {h' : Heap} {n ep : Nat} {kvs : List (Int × Int)} {a : Addr} {es : List DictEntry} {k v : Int} {t u : Tok} (e : H[n]? = some (.dict kvs ep)) (ea : ρ[n]? = some a) (hn : n ≠ 0) (rs : DRs kvs es) (nd : (kvs.map (·.1)).Nodup) (hl : kvs.lookup k = none)
    (g : h'.get? a = some ⟨.type "dict", none, .dict (List.toArray (es ++ [⟨hashInt k, .int k t, .int v u⟩])) (ep + 1), #[]⟩) (hs : Heap.SameBut a h h') : SR h₁ T ρ (H.set n (.dict (kvs ++ [(k, v)]) (ep + 1))) h' :=
  S.put e ea hn (by intro z; cases z) (by intro z; cases z) (fun b ob nb q => (hs.2 b nb).trans q) (Nat.le_of_eq hs.1.symm) ⟨_, g, rs.snoc, nodup_snoc nd hl⟩
theorem Stp.put {X : List Addr} {a : Addr} (f : Obj → Obj) (m : a ∈ ρ) : Stp X ρ h ρ (h.update a f) := Stp.same (Heap.SameBut.update ..) (.inl m)
end
end Mine
end

section
set_option maxRecDepth 100000
set_option linter.unusedVariables false
set_option autoImplicit false
namespace Mine
open PySem
section
variable {E : CE} {L L' : CL} {H H' : CH} {p q : Pos} {v : CV} {c : CF} {P : Prop}
theorem i_bind2 {x y : Str} {u : CV} {z : CL × CH} (h : bind2 E x y v u L H = some z) (k : ∀ L1 H1, setName E x v L H = some (L1, H1) → setName E y u L1 H1 = some z → P) : P := by
  unfold bind2 at h
  split at h
  · rename_i e1; exact k _ _ e1 h
  · cases h
end
end Mine
end

section
set_option maxRecDepth 100000
set_option linter.unusedVariables false
set_option linter.unusedSectionVars false
set_option autoImplicit false
namespace Mine
open PySem PySem.W PyProof.Rows PySem.SeqAt
section
variable {prog : Program} {w : World} {h₁ : Heap} {T : Txt} {mg mb : Str → Option Value} {A : Around} {ρ ρ₁ : List Addr} {E : CE} {L L' : CL} {H H' : CH} {env : Env} {s : Shared} {c : CF} {Q : Flow → Shared → Prop} {hp₁ : Heap} {tk₁ : Nat} {X : List Addr}
theorem Stp.none {Y : List Addr} {h h' : Heap} (p : Stp [] ρ h ρ₁ h') : Stp Y ρ h ρ₁ h' := p.weaken fun _ m => nomatch m
theorem PostF.after (p : PostF h₁ T X ρ H' L' env s c Q) (st : Stp (env.locals :: X) ρ s.heap ρ₁ hp₁) : PostF h₁ T X ρ₁ H' L' env { s with heap := hp₁, toks := tk₁ } c Q :=
  fun ρ' x h' tk st' S' l' f => p ρ' x h' tk (st.trans st' (fun _ m => .inl m)) S' l' f
/-- after a store -/
noncomputable def PostU (h₁ : Heap) (T : Txt) (ρ : List Addr) (H' : CH) (L' : CL) (env : Env) (s : Shared) (Q : Unit → Shared → Prop) : Prop :=
  ∀ ρ' h' tk, Stp [env.locals] ρ s.heap ρ' h' → SR h₁ T ρ' H' h' → LR ρ' L' env h' → Q () { s with heap := h', toks := tk }
theorem PostU.after {Q : Unit → Shared → Prop} (p : PostU h₁ T ρ H' L' env s Q) (st : Stp [env.locals] ρ s.heap ρ₁ hp₁) : PostU h₁ T ρ₁ H' L' env { s with heap := hp₁, toks := tk₁ } Q :=
  fun ρ' h' tk st' S' l' => p ρ' h' tk (st.trans st' (fun _ m => .inl m)) S' l'
theorem store_ok {x : Str} {v : CV} {y : Value} (e : setName E x v L H = some (L', H')) (S : SR h₁ T ρ H s.heap) (R : ER ρ E env) (l : LR ρ L env s.heap) (hv : VR ρ v y) {Q : Unit → Shared → Prop} (p : PostU h₁ T ρ H' L' env s Q) :
    wpAny (model prog w) A (storeName env x y) Q Fx s := nm_store e S R l hv fun h' tk st S' l' => p ρ h' tk st S' l'
theorem LR.same {a : Addr} {h h' : Heap} (l : LR ρ L env h) (k : ∀ o, h.get? env.locals = some o → h'.get? env.locals = some o) : LR ρ L env h' := by
  obtain ⟨m, n, q⟩ := l
  exact ⟨m, n.at k, q⟩
theorem noSwap {x : Expr} (h : isComp x = false) (t : Option Expr) (n : Nat) : swapsWith x t n env = pure false := by cases x <;> first | rfl | cases h
theorem noSwapped {t x : Expr} (h : isTgt t = true) : swappedStores [t] x env = pure none := by
  cases t <;> first | cases h; done | (cases x <;> rfl)
theorem oneEach {t : Expr} (h : isTgt t = true) : (assignEach [t] env).map (·.2) = [assign t env] := by
  cases t <;> first | rfl | cases h
section
variable {H1 H2 : CH} {x o i : Expr} {u v : CV} {pos : Pos}
/-- a store into a part -/
theorem asg_sub {n : Nat} {k : Int} {y : Value} {Q : Unit → Shared → Prop} (e1 : EvS prog w h₁ T E L o H (.loc n) H1) (e2 : EvS prog w h₁ T E L i H1 (.int k) H2) (ok : OkA E.lv A) (S : SR h₁ T ρ H s.heap) (R : ER ρ E env) (l : LR ρ L env s.heap) (hv : VR ρ v y)
    (q : ∀ ρ2 h2 t2 a t, Stp [] ρ s.heap ρ2 h2 → SR h₁ T ρ2 H2 h2 → env.locals ≠ a → LR ρ2 L env h2 → ρ2[n]? = some a → VR ρ2 v y → wpAny (model prog w) A (setItem (.ref a) (.int k t) y) Q Fx { s with heap := h2, toks := t2 }) : wpAny (model prog w) A (assign (.Subscript o i pos) env y) Q Fx s := by
  rw [arm_assign_Subscript]
  refine wpAny_bind (wpAny_holding (e1 ok S R l fun ρ1 x1 h1 t1 st1 S1 v1 => ?_))
  have R1 := R.step st1 l.lt
  have l1 := l.ev R st1
  refine wpAny_bind (wpAny_holding (e2 ok S1 R1 l1 fun ρ2 x2 h2 t2 st2 S2 v2 => ?_))
  obtain ⟨a, ea, rfl⟩ := v1.mono st2.pre
  obtain ⟨t, rfl⟩ := v2
  exact wpAny_bind (wpAny_standAt (wpAny_bind (wpAny_holding (wpAny_mono (q ρ2 h2 t2 a t (st1.trans st2 fun _ m => nomatch m) S2 (fun z => (R1.step st2 l1.lt).loc (z ▸ List.mem_of_getElem? ea)) (l1.ev R1 st2) ea ((hv.mono st1.pre).mono st2.pre)) (fun _ _ h => rel_ok h) fun _ _ h => h))))
theorem st_of {t : Expr} (ht : isTgt t = true) (hx : isComp x = false) (e : EvS prog w h₁ T E L x H v H1)
    (p : ∀ {A : Around} {ρ : List Addr} {env : Env} {s : Shared} {y : Value} {Q : Unit → Shared → Prop}, OkA E.lv A → SR h₁ T ρ H1 s.heap → ER ρ E env → LR ρ L env s.heap → VR ρ v y → PostU h₁ T ρ H' L' env s Q → wpAny (model prog w) A (assign t env y) Q Fx s) :
    ExS prog w h₁ T E (.Assign [t] x pos) L H .next L' H' := by
  intro A ρ env s ok S R l Q q
  refine wpAny_Assign_stores (e ok S R l fun ρ1 x1 h1 t1 st1 S1 v1 => ?_) (noSwap hx _ _) (noSwapped ht)
  rw [oneEach ht]
  exact p ok S1 (R.step st1 l.lt) (l.ev R st1) v1 fun ρ2 h2 t2 st2 S2 l2 => q ρ2 _ h2 t2 (st1.none.trans st2 fun _ m => .inl m) S2 l2 rfl
theorem st_set {y : Str} {py : Pos} (hx : isComp x = false) (e : EvS prog w h₁ T E L x H v H1) (e' : setName E y v L H1 = some (L', H')) : ExS prog w h₁ T E (.Assign [.Name y py] x pos) L H .next L' H' :=
  st_of rfl hx e fun _ S R l hv p => wpAny_assign_Name (store_ok e' S R l hv p)
theorem st_item {q : Pos} {n : Nat} {k : Int} {xs : List CV} {H3 : CH} (hx : isComp x = false) (e : EvS prog w h₁ T E L x H v H1) (e1 : EvS prog w h₁ T E L o H1 (.loc n) H2) (e2 : EvS prog w h₁ T E L i H2 (.int k) H3) (hn : H3[n]? = some (.list xs)) (hk : n ≠ 0 ∧ 0 ≤ k ∧ k < 1000 ∧ k < xs.length) :
    ExS prog w h₁ T E (.Assign [.Subscript o i q] x pos) L H .next L (H3.set n (.list (xs.set k.toNat v))) :=
  st_of rfl hx e fun {A ρ env s y Q} ok S R l hv p => asg_sub e1 e2 ok S R l hv fun ρ2 h2 t2 a t st2 S2 ne l2 ea hv => by
    obtain ⟨vs, m, gv, rv⟩ := S2.obj _ _ a hn ea
    exact put_item gv hk.2.1 (by (first | lia | omega)) (by rw [rv.isList]; exact hk.2.2.2) (p ρ2 _ t2 (st2.none.trans (Stp.put (X := [env.locals]) _ (List.mem_of_getElem? ea)) fun _ m => .inl m) (S2.list_put hn ea hk.1 gv (by simp) (rv.set k.toNat hv)) (l2.same (a := a) fun o ho => ((Heap.SameBut.update _ a _).2 _ ne).trans ho))
theorem st_key {q : Pos} {n ep : Nat} {k b : Int} {kvs : List (Int × Int)} {H3 : CH} (hx : isComp x = false) (e : EvS prog w h₁ T E L x H (.int b) H1) (e1 : EvS prog w h₁ T E L o H1 (.loc n) H2) (e2 : EvS prog w h₁ T E L i H2 (.int k) H3) (hn : H3[n]? = some (.dict kvs ep))
    (hk : n ≠ 0 ∧ 0 ≤ k ∧ k < 1000 ∧ kvs.length ≤ 1000 ∧ (kvs.lookup k).isNone) : ExS prog w h₁ T E (.Assign [.Subscript o i q] x pos) L H .next L (H3.set n (.dict (kvs ++ [(k, b)]) (ep + 1))) :=
  st_of rfl hx e fun {A ρ env s y Q} ok S R l hv p => asg_sub e1 e2 ok S R l hv fun ρ2 h2 t2 a t st2 S2 ne l2 ea hv => by
    obtain ⟨u, rfl⟩ := hv
    obtain ⟨es, g, dr, nd⟩ := S2.obj _ _ a hn ea
    have hl : kvs.lookup k = none := by simpa using hk.2.2.2.2
    exact set_dict (s := { s with heap := h2, toks := t2 }) g dr hl hk.2.2.2.1 fun h3 g3 hs3 =>
      p ρ2 h3 _ (st2.none.trans (Stp.same (X := [env.locals]) hs3 (.inl (List.mem_of_getElem? ea))) fun _ m => .inl m) (S2.dict_put hn ea hk.1 dr nd hl g3 hs3) (l2.same (a := a) fun o ho => (hs3.2 _ ne).trans ho)
theorem bind2_ok {x y : Str} {v u : CV} {a b : Value} (S : SR h₁ T ρ H s.heap) (R : ER ρ E env) (l : LR ρ L env s.heap) (e : bind2 E x y v u L H = some (L', H')) (hv : VR ρ v a) (hu : VR ρ u b) {Q : Unit → Shared → Prop} (p : PostU h₁ T ρ H' L' env s Q) :
    wpAny (model prog w) A (storeName env x a) (fun _ s' => wpAny (model prog w) A (storeName env y b) Q Fx s') Fx s :=
  i_bind2 e fun _ _ e1 e => store_ok e1 S R l hv fun _ _ _ st1 S1 l1 => store_ok e S1 (R.step st1 l.lt) l1 (hv := hu.mono st1.pre) (p.after st1)
theorem st_Return (e : EvS prog w h₁ T E L x H v H') : ExS prog w h₁ T E (.Return (some x) pos) L H (.ret v) L H' := fun ok S R l Q p =>
  wpAny_Return_some (e ok S R l fun ρ1 x1 h1 t1 st1 S1 v1 => p ρ1 _ h1 t1 st1.none S1 (l.ev R st1) ⟨x1, rfl, v1⟩)
theorem st_Break : ExS prog w h₁ T E (.Break pos) L H .brk L H := fun {A ρ env s} ok S R l Q p => wpAny_Break (p ρ _ s.heap s.toks (Stp.refl ..) S l rfl)
theorem st_Expr {f : Expr} {as : List Expr} {ks : List Keyword} {pc : Pos} (e : EvS prog w h₁ T E L (.Call f as ks pc) H .none H') : ExS prog w h₁ T E (.Expr (.Call f as ks pc) pos) L H .next L H' := fun ok S R l Q p => by
  refine wpAny_Expr (e ok S R l fun ρ1 x1 h1 t1 st1 S1 v1 => ?_) (by unfold interactive; rw [R.fn]; rfl) rfl
  cases v1
  exact p ρ1 _ h1 t1 st1.none S1 (l.ev R st1) rfl
theorem st_If {t : Expr} {a b : List Stmt} {z : Bool} (e : TsS prog w h₁ T E L t H z H1) (e' : ExsS prog w h₁ T E (if z then a else b) L H1 c L' H') : ExS prog w h₁ T E (.If t a b pos) L H c L' H' := fun ok S R l Q p => by
  refine wpAny_If (e ok S R l fun ρ1 h1 t1 st1 S1 => ?_)
  have k := e' ok S1 (R.step st1 l.lt) (l.ev R st1) (p.after (tk₁ := t1) st1.none)
  cases z <;> exact k
theorem st_While {t : Expr} {body : List Stmt} (e : WhS prog w h₁ T E t body L H c L' H') : ExS prog w h₁ T E (.While t body [] pos) L H c L' H' := fun ok S R l Q p => wpAny_While (e ok S R l p)
theorem st_add (B : Bs h₁ T mg mb) {y : Str} {py : Pos} {a b : Int} (ha : getName T E L y H = some (.int a)) (e : EvS prog w h₁ T E L x H (.int b) H1) (hs : setName E y (.int (a + b)) L H1 = some (L', H')) : ExS prog w h₁ T E (.AugAssign (.Name y py) .Add x pos) L H .next L' H' := fun ok S R l Q p => by
  refine wpAny_AugAssign_Name (nm_load B ha S R l fun z vz => e ok S R l fun ρ1 x1 h1 t1 st1 S1 v1 => ?_)
  obtain ⟨t, rfl⟩ := vz
  obtain ⟨t', rfl⟩ := v1
  exact iadd_int (store_ok hs S1 (R.step st1 l.lt) (l.ev R st1) ⟨_, rfl⟩ fun ρ2 h2 t2 st2 S2 l2 => p ρ2 _ h2 t2 (st1.none.trans st2 fun _ m => .inl m) S2 l2 rfl)
theorem st_subtract (B : Bs h₁ T mg mb) {y : Str} {py : Pos} {a b : Int} (ha : getName T E L y H = some (.int a)) (e : EvS prog w h₁ T E L x H (.int b) H1) (hs : setName E y (.int (a - b)) L H1 = some (L', H')) : ExS prog w h₁ T E (.AugAssign (.Name y py) .Sub x pos) L H .next L' H' := fun ok S R l Q p => by
  refine wpAny_AugAssign_Name (nm_load B ha S R l fun z vz => e ok S R l fun ρ1 x1 h1 t1 st1 S1 v1 => ?_)
  obtain ⟨t, rfl⟩ := vz
  obtain ⟨t', rfl⟩ := v1
  exact PyProof.Rows.isub_int (store_ok hs S1 (R.step st1 l.lt) (l.ev R st1) ⟨_, rfl⟩ fun ρ2 h2 t2 st2 S2 l2 => p ρ2 _ h2 t2 (st1.none.trans st2 fun _ m => .inl m) S2 l2 rfl)
theorem st_two {y z : Str} {py pz : Pos} (e : EvS prog w h₁ T E L x H v H1) (e' : bind2 E y z v v L H1 = some (L', H')) : ExS prog w h₁ T E (.Assign [.Name y py, .Name z pz] x pos) L H .next L' H' := fun ok S R l Q p =>
  wpAny_Assign_two (e ok S R l fun ρ1 x1 h1 t1 st1 S1 v1 => wpAny_assign_Name (wpAny_mono (bind2_ok S1 (R.step st1 l.lt) (l.ev R st1) e' v1 v1
    fun ρ2 h2 t2 st2 S2 l2 => p ρ2 _ h2 t2 (st1.none.trans st2 fun _ m => .inl m) S2 l2 rfl) (fun _ _ q => wpAny_assign_Name q) fun _ _ q => q)) rfl (by cases x <;> rfl)
theorem xs_nil : ExsS prog w h₁ T E [] L H .next L H := fun {A ρ env s} ok S R l Q p => wpAny_execs_nil (p ρ _ s.heap s.toks (Stp.refl ..) S l rfl)
theorem xs_cons {st : Stmt} {ss : List Stmt} {L1 : CL} (e : ExS prog w h₁ T E st L H .next L1 H1) (e' : ExsS prog w h₁ T E ss L1 H1 c L' H') : ExsS prog w h₁ T E (st :: ss) L H c L' H' := fun ok S R l Q p =>
  wpAny_execs_cons (e ok S R l fun ρ1 x1 h1 t1 st1 S1 l1 f1 => by cases f1; exact e' ok S1 (R.step st1 l.lt) l1 (p.after st1))
theorem xs_brk {st : Stmt} {ss : List Stmt} (e : ExS prog w h₁ T E st L H .brk L' H') : ExsS prog w h₁ T E (st :: ss) L H .brk L' H' := fun ok S R l Q p =>
  wpAny_execs_cons (e ok S R l fun ρ1 x1 h1 t1 st1 S1 l1 f1 => by cases f1; exact p ρ1 _ h1 t1 st1 S1 l1 rfl)
theorem xs_ret {st : Stmt} {ss : List Stmt} (e : ExS prog w h₁ T E st L H (.ret v) L' H') : ExsS prog w h₁ T E (st :: ss) L H (.ret v) L' H' := fun ok S R l Q p =>
  wpAny_execs_cons (e ok S R l fun ρ1 x1 h1 t1 st1 S1 l1 f1 => by obtain ⟨y, rfl, vy⟩ := f1; exact p ρ1 _ h1 t1 st1 S1 l1 ⟨y, rfl, vy⟩)
end
end
end Mine
end

section
set_option maxRecDepth 100000
set_option linter.unusedVariables false
set_option linter.unusedSectionVars false
set_option autoImplicit false
namespace Mine
open PySem PySem.W PyProof.Rows PySem.SeqAt
section
variable {prog : Program} {w : World} {h₁ : Heap} {T : Txt} {mg mb : Str → Option Value} {A : Around} {ρ ρ₁ : List Addr} {E : CE} {L L' : CL} {H H' : CH} {env : Env} {s : Shared} {c : CF} {Q : Flow → Shared → Prop} {hp₁ : Heap} {tk₁ : Nat} {X : List Addr}
theorem ER.blk (R : ER ρ E env) : env.blockKind = .function := by unfold Env.blockKind; rw [R.fn]; rfl
noncomputable def swT (k : Bool) (o p : Option Str) (c : Bool) : Sem (Option (List Str)) :=
  if k then pure none else
  if ([o, p].filterMap id).length != 2 || ([o, p].filterMap id).eraseDups.length != ([o, p].filterMap id).length then pure none else
  if c then (unsupported "assign.tuple-of-constant-expressions:order-of-the-stores" : Sem Unit) >>= fun _ => pure (some ([o, p].filterMap id)) else pure (some ([o, p].filterMap id))
theorem dups2 {x y : Str} (hxy : x ≠ y) : ([x, y] : List Str).eraseDups = [x, y] := by
  have : (y == x) = false := beq_eq_false_iff_ne.mpr (Ne.symm hxy)
  simp [this, List.eraseDups, List.eraseDupsBy, List.eraseDupsBy.loop]
theorem swT_ok {k : Bool} {x y : Str} {u v : Bool} (hk : k = false) (hxy : x ≠ y) : swT k (if u then some x else none) (if v then some y else none) false = pure (if (u && v) = true then some [x, y] else none) := by
  subst hk
  cases u <;> cases v <;> try rfl
  show (if (2 != 2 || ([x, y].eraseDups.length != 2)) = true then _ else _ : Sem (Option (List Str))) = _
  rw [dups2 hxy]; rfl
theorem swapped_ {x y a b : Str} {px py pa pb q q' : Pos} {k k' : Nat} (R : ER ρ E env) (hxy : x ≠ y) (ha : a ≠ ("__debug__" : Str)) (hl : px.line = py.line) :
    swappedStores [.Tuple [.Name x px, .Name y py] k q] (.Tuple [.Name a pa, .Name b pb] k' q') env = pure (if kindIn E x = some .local ∧ kindIn E y = some .local then some [x, y] else none) := by
  have e0 : swappedStores [.Tuple [.Name x px, .Name y py] k q] (.Tuple [.Name a pa, .Name b pb] k' q') env = swT (env.blockKind != .function) (if env.kindOf x == some .local && px.line == px.line then some x else none) (if env.kindOf y == some .local && py.line == px.line then some y else none) (a == "__debug__" && (b == "__debug__" && true)) := rfl
  have l1 : (px.line == px.line) = true := beq_self_eq_true _
  have l2 : (py.line == px.line) = true := by rw [hl]; exact beq_self_eq_true _
  have k1 : (env.blockKind != .function) = false := by rw [R.blk]; rfl
  have c1 : (a == ("__debug__" : Str)) = false := beq_eq_false_iff_ne.mpr ha
  rw [e0, l1, l2, Bool.and_true, Bool.and_true, c1, R.kindOf x, R.kindOf y]
  refine (swT_ok k1 hxy).trans (congrArg pure (ite_congr ?_ (fun _ => rfl) fun _ => rfl))
  rw [Bool.and_eq_true, beq_iff_eq, beq_iff_eq]
section
theorem pair_ok (ok : OkA E.lv A) (S : SR h₁ T ρ H s.heap) (R : ER ρ E env) (l : LR ρ L env s.heap) {x y : Expr} {k : Nat} {pos : Pos} {v u : CV} {Q : Value → Shared → Prop} (e : EsS prog w h₁ T E L [x, y] H [v, u] H')
    (p : ∀ ρ1 a b h1 tk, Stp [] ρ s.heap ρ1 h1 → SR h₁ T ρ1 H' h1 → VR ρ1 v a → VR ρ1 u b → Q (.ref h1.objs.size) { s with heap := h1.push { cls := .type "tuple", data := .seq #[a, b] }, toks := tk }) :
    wpAny (model prog w) A (eval (.Tuple [x, y] k pos) env) Q Fx s := by
  rw [arm_eval_Tuple]
  refine wpAny_bind (wpAny_standAt (wpAny_bind (evs_ok ok e S R l fun ρ1 xs h1 t1 st1 S1 v1 => ?_)))
  obtain - | ⟨va, - | ⟨vb, vn⟩⟩ := v1
  cases vn
  unfold newTuple
  exact wpAny_newObj_type (p ρ1 _ _ h1 t1 st1 S1 va vb) (by show 2 ≤ sizeLine; decide)
theorem st_swap {x y a b : Str} {px py pa pb q q' pos : Pos} {k k' : Nat} {v u : CV} {H1 : CH} (hxy : x ≠ y) (ha : a ≠ ("__debug__" : Str)) (hl : px.line = py.line)
    (e : EsS prog w h₁ T E L [.Name a pa, .Name b pb] H [v, u] H1)
    (e' : (if kindIn E x = some .local ∧ kindIn E y = some .local then bind2 E y x u v L H1 else bind2 E x y v u L H1) = some (L', H')) :
    ExS prog w h₁ T E (.Assign [.Tuple [.Name x px, .Name y py] k q] (.Tuple [.Name a pa, .Name b pb] k' q') pos) L H .next L' H' := by
  intro A ρ env s ok S R l Q p
  have hw := swapped_ (b := b) (pa := pa) (pb := pb) (q := q) (q' := q') (k := k) (k' := k') R hxy ha hl
  by_cases hb : kindIn E x = some .local ∧ kindIn E y = some .local
  · rw [if_pos hb] at e' hw
    refine Assign_Tuple_swapped (pair_ok ok S R l e fun ρ1 va vb h1 t1 st1 S1 v1 v2 => ?_) rfl hw
    refine wpAny_grow ?_
    show wpAny (model prog w) A (unpackItems (.ref h1.objs.size) (#[va, vb] : Array Value).size none) _ _ _
    refine unpackItems_tuple (items := #[va, vb]) ok.handled ⟨_, Heap.get?_push_size _ rfl, rfl, _, rfl⟩ fun h2 he hz => ?_
    dsimp only at he hz ⊢
    rw [Heap.size_push] at hz
    have kp : ∀ b o, h1.get? b = some o → h2.get? b = some o := fun b o g => he b o (by rw [Heap.size_push]; exact Nat.ne_of_lt (Nat.lt_succ_of_lt (Heap.lt_size g))) (Heap.get?_push_of_some _ g)
    have st2 : Stp [] ρ1 h1 ρ1 h2 := Stp.ext (fun b o g _ => kp b o g) (by (first | lia | omega))
    have S2 := S1.keeps (h' := h2) (fun b o g _ => kp b o g) (by (first | lia | omega))
    have R1 := R.step st1 l.lt
    have l1 := l.ev R st1
    have l2 := l1.ev R1 st2
    show wpAny _ _ (holding [va] (bindName env y vb) >>= fun _ => holding [] (bindName env x va) >>= fun _ => pure ()) _ _ _
    refine wpAny_bind (wpAny_holding (wpAny_bindName (wpAny_mono (bind2_ok S2 (R1.step st2 l1.lt) l2 e' v2 v1 fun ρ3 h3 t3 st3 S3 l3 => ?_) (fun _ _ z => wpAny_bind (wpAny_holding (wpAny_bindName z))) fun _ _ z => z)))
    exact wpAny_pure (p ρ3 _ h3 t3 (((st1.trans st2 fun _ m => nomatch m).none).trans st3 fun _ m => .inl m) S3 l3 rfl)
  · rw [if_neg hb] at e' hw
    refine PyProof.Rows.Assign_Tuple (pair_ok ok S R l e fun ρ1 va vb h1 t1 st1 S1 v1 v2 => ?_) rfl hw
    rw [arm_assign_Tuple]
    refine wpAny_bind (wpAny_standAt ?_)
    unfold unpack
    refine wpAny_bind (wpAny_holding (wpAny_grow ?_))
    show wpAny (model prog w) A (unpackItems (.ref h1.objs.size) (#[va, vb] : Array Value).size none) _ _ _
    refine unpackItems_tuple (items := #[va, vb]) ok.handled ⟨_, Heap.get?_push_size _ rfl, rfl, _, rfl⟩ fun h2 he hz => ?_
    dsimp only at he hz ⊢
    rw [Heap.size_push] at hz
    have kp : ∀ b o, h1.get? b = some o → h2.get? b = some o := fun b o g => he b o (by rw [Heap.size_push]; exact Nat.ne_of_lt (Nat.lt_succ_of_lt (Heap.lt_size g))) (Heap.get?_push_of_some _ g)
    have st2 : Stp [] ρ1 h1 ρ1 h2 := Stp.ext (fun b o g _ => kp b o g) (by (first | lia | omega))
    have S2 := S1.keeps (h' := h2) (fun b o g _ => kp b o g) (by (first | lia | omega))
    have R1 := R.step st1 l.lt
    have l1 := l.ev R st1
    have l2 := l1.ev R1 st2
    show wpAny _ _ (holding [vb] (assign (.Name x px) env va) >>= fun _ => holding [] (assign (.Name y py) env vb) >>= fun _ => pure ()) _ _ _
    refine wpAny_bind (wpAny_holding (wpAny_assign_Name (wpAny_mono (bind2_ok S2 (R1.step st2 l1.lt) l2 e' v1 v2 fun ρ3 h3 t3 st3 S3 l3 => ?_) (fun _ _ z => wpAny_bind (wpAny_holding (wpAny_assign_Name z))) fun _ _ z => z)))
    exact wpAny_pure (p ρ3 _ h3 t3 (((st1.trans st2 fun _ m => nomatch m).none).trans st3 fun _ m => .inl m) S3 l3 rfl)
end
end
end Mine
end

section
set_option maxRecDepth 100000
set_option linter.unusedVariables false
set_option linter.unusedSectionVars false
set_option autoImplicit false
namespace Mine
open PySem PySem.W PyProof.Rows PySem.SeqAt
structure ZA (z TI TO i1 i2 : Addr) : Prop where
  TIz : TI ≠ z
  TOz : TO ≠ z
  i1z : i1 ≠ z
  i2z : i2 ≠ z
  TITO : TI ≠ TO
  TIi1 : TI ≠ i1
  TIi2 : TI ≠ i2
  TOi1 : TO ≠ i1
  TOi2 : TO ≠ i2
  i12 : i1 ≠ i2
theorem ZA.of {z TI TO i1 i2 : Addr} (h : [z, TI, TO, i1, i2].Nodup) : ZA z TI TO i1 i2 := by
  simp only [List.nodup_cons, List.mem_cons, not_or] at h
  obtain ⟨⟨a1, a2, a3, a4, _⟩, ⟨b1, b2, b3, _⟩, ⟨c1, c2, _⟩, ⟨d1, _⟩, _⟩ := h
  exact ⟨Ne.symm a1, Ne.symm a2, Ne.symm a3, Ne.symm a4, b1, b2, b3, c1, c2, d1⟩
section
variable {prog : Program} {w : World} {A : Around} {E : Value → Shared → Prop} {s : Shared}
theorem IsStrIter_at {h h' : Heap} {a : Addr} {ty : String} {x : Str} {t : Tok} {i : Nat} (y : h.IsStrIter a ty x t i) (k : ∀ o, h.get? a = some o → h'.get? a = some o) : h'.IsStrIter a ty x t i := by
  obtain ⟨o, ho, r⟩ := y
  exact ⟨o, k o ho, r⟩
theorem zipS_item {z TI TO i1 i2 : Addr} {k p q : Nat} {x y : Str} {t u : Tok} {a b : Value} {Q : Value → Shared → Prop} (D : ZA z TI TO i1 i2)
    (hz : IsZip s.heap z TI TO .none) (hTI : IsPair s.heap TI (.ref i1) (.ref i2)) (hTO : IsPair s.heap TO a b)
    (h1 : s.heap.IsStrIter i1 "str_ascii_iterator" x t k) (h2 : s.heap.IsStrIter i2 "str_ascii_iterator" y u k) (hx : x.cps[k]? = some p) (hy : y.cps[k]? = some q)
    (hQ : ∀ h' v v', IsZip h' z TI TO (rawInt s.heap.objs.size) → (∃ t', v = .str ⟨#[p]⟩ t') → (∃ t', v' = .str ⟨#[q]⟩ t') → IsPair h' TO v v' → h'.IsStrIter i1 "str_ascii_iterator" x t (k + 1) → h'.IsStrIter i2 "str_ascii_iterator" y u (k + 1) →
      IsPair h' s.heap.objs.size v v' → h'.objs.size = s.heap.objs.size + 1 → (∀ c o, c ≠ z → c ≠ TO → c ≠ i1 → c ≠ i2 → s.heap.get? c = some o → h'.get? c = some o) → ∀ tk, Q (.ref s.heap.objs.size) { s with heap := h', toks := tk }) :
    wpAny (model prog w) A (Builtin.«zip.__next__» ⟨[.ref z], []⟩) (fun fin s' => ∃ v, fin = .done (.ret v) ∧ Q v s') E s := by
  show wpAny _ _ (field (.ref z) 2 >>= _) _ _ _
  refine wpAny_bind (wpAny_field hz rfl (x := .bool false) rfl ?_)
  show wpAny _ _ (field (.ref z) 3 >>= _) _ _ _
  refine wpAny_bind (wpAny_field hz rfl (x := .ref TI) rfl ?_)
  refine wpAny_bind (wpAny_seqItems hTI rfl ?_)
  show wpAny _ _ (Builtin.SmallTypes.ownedTupleIsFree (.ref z) >>= _) _ _ _
  refine wpAny_bind ?_
  unfold Builtin.SmallTypes.ownedTupleIsFree
  refine wpAny_bind (wpAny_field hz rfl (x := .none) rfl (wpAny_pure ?_))
  simp only [if_true]
  refine wpAny_bind (wpAny_rule ?_)
  refine wpAny_bind (wpAny_field hz rfl (x := .ref TO) rfl ?_)
  refine wpAny_bind (wpAny_setField_rec hz (by simp) fun h₁ hz₁ hs₁ => ?_)
  replace hz₁ : IsZip h₁ z TI TO .ellipsis := hz₁
  refine wpAny_bind ?_
  simp only [List.zipIdx_cons, List.zipIdx_nil, List.forIn_cons, List.forIn_nil]
  refine wpAny_bind (wpAny_bind (wpAny_onRaise ?_))
  show wpAny _ _ (Builtin.SmallTypes.nextOf (.ref i1) >>= _) _ _ _
  refine wpAny_bind (wpAny_nextOf_ascii_item (h1.extBut hs₁.extBut D.i1z) hx fun h₂ h1₂ hs₂ => wpAny_pure ?_)
  generalize hv : (Value.str ⟨#[p]⟩ _ : Value) = v
  have ev : ∃ t', v = .str ⟨#[p]⟩ t' := ⟨_, hv.symm⟩
  have hTO₂ : IsPair h₂ TO a b := hs₂.extBut _ _ D.TOi1 (hs₁.extBut _ _ D.TOz hTO)
  refine wpAny_bind (wpAny_seqItems hTO₂ rfl ?_)
  refine wpAny_bind (wpAny_updateSeq_pair hTO₂ fun h₃ hTO₃ hs₃ => ?_)
  replace hTO₃ : IsPair h₃ TO v b := hTO₃
  refine wpAny_bind (wpAny_letGo (wpAny_pure ?_))
  refine wpAny_bind (wpAny_bind (wpAny_onRaise ?_))
  show wpAny _ _ (Builtin.SmallTypes.nextOf (.ref i2) >>= _) _ _ _
  refine wpAny_bind (wpAny_nextOf_ascii_item (((h2.extBut hs₁.extBut D.i2z).extBut hs₂.extBut D.i12.symm).extBut hs₃.extBut D.TOi2.symm) hy fun h₄ h2₄ hs₄ => wpAny_pure ?_)
  generalize hv' : (Value.str ⟨#[q]⟩ _ : Value) = v'
  have ev' : ∃ t', v' = .str ⟨#[q]⟩ t' := ⟨_, hv'.symm⟩
  have hTO₄ : IsPair h₄ TO v b := hs₄.extBut _ _ D.TOi2 hTO₃
  refine wpAny_bind (wpAny_seqItems hTO₄ rfl ?_)
  refine wpAny_bind (wpAny_updateSeq_pair hTO₄ fun h₅ hTO₅ hs₅ => ?_)
  replace hTO₅ : IsPair h₅ TO v v' := hTO₅
  refine wpAny_bind (wpAny_letGo (wpAny_pure (wpAny_pure ?_)))
  refine wpAny_bind (wpAny_seqItems hTO₅ rfl ?_)
  refine wpAny_bind (wpAny_newTuple ?_)
  have hsz : h₅.objs.size = s.heap.objs.size := by rw [hs₅.1, hs₄.1, hs₃.1, hs₂.1, hs₁.1]
  have hz₅ : IsZip h₅ z TI TO .ellipsis := hs₅.extBut _ _ D.TOz.symm (hs₄.extBut _ _ D.i2z.symm (hs₃.extBut _ _ D.TOz.symm (hs₂.extBut _ _ D.i1z.symm hz₁)))
  have hk₅ : ∀ c o, c ≠ z → c ≠ TO → c ≠ i1 → c ≠ i2 → s.heap.get? c = some o → h₅.get? c = some o := fun c o c1 c2 c3 c4 e =>
    hs₅.extBut _ _ c2 (hs₄.extBut _ _ c4 (hs₃.extBut _ _ c2 (hs₂.extBut _ _ c3 (hs₁.extBut _ _ c1 e))))
  have h1₅ := ((h1₂.extBut hs₃.extBut D.TOi1.symm).extBut hs₄.extBut D.i12).extBut hs₅.extBut D.TOi1.symm
  have h2₅ := h2₄.extBut hs₅.extBut D.TOi2.symm
  have hzlt : z < h₅.objs.size := Heap.lt_size hz₅
  show wpAny _ _ (Builtin.SmallTypes.ownedTupleHandOut (.ref z) (.ref h₅.objs.size) >>= _) _ _ _
  refine wpAny_bind ?_
  unfold Builtin.SmallTypes.ownedTupleHandOut
  have hz₆ : IsZip (h₅.push { cls := .type "tuple", data := .seq #[v, v'] }) z TI TO .ellipsis := Heap.get?_push_of_some _ hz₅
  refine wpAny_bind (wpAny_setField_rec hz₆ (by simp) fun h₇ hz₇ hs₇ => ?_)
  replace hz₇ : IsZip h₇ z TI TO (rawInt h₅.objs.size) := hz₇
  refine wpAny_setField_rec hz₇ (by simp) fun h₈ hz₈ hs₈ => ?_
  replace hz₈ : IsZip h₈ z TI TO (rawInt h₅.objs.size) := hz₈
  have up : ∀ c o, c ≠ z → h₅.get? c = some o → h₈.get? c = some o := fun c o c1 e => hs₈.extBut _ _ c1 (hs₇.extBut _ _ c1 (Heap.get?_push_of_some _ e))
  have hT₈ : IsPair h₈ h₅.objs.size v v' := hs₈.extBut _ _ (Nat.ne_of_gt hzlt) (hs₇.extBut _ _ (Nat.ne_of_gt hzlt) (Heap.get?_push_size _ rfl))
  have hz8 : h₈.objs.size = h₅.objs.size + 1 := by rw [hs₈.1, hs₇.1, Heap.size_push]
  rw [hsz] at hz₈ hT₈ hz8
  refine wpAny_pure ⟨_, rfl, ?_⟩
  show Q (.ref h₅.objs.size) _
  rw [hsz]
  exact hQ h₈ v v' hz₈ ev ev' (up _ _ D.TOz hTO₅) (IsStrIter_at h1₅ fun o e => up _ o D.i1z e) (IsStrIter_at h2₅ fun o e => up _ o D.i2z e) hT₈ hz8 (fun c o c1 c2 c3 c4 e => up c o c1 (hk₅ c o c1 c2 c3 c4 e)) _
theorem zipS_end {z TI TO i1 i2 : Addr} {k : Nat} {x : Str} {t : Tok} {a b : Value} {Q : Fin → Shared → Prop} (hh : A.handled = none) (D : ZA z TI TO i1 i2)
    (hz : IsZip s.heap z TI TO .none) (hTI : IsPair s.heap TI (.ref i1) (.ref i2)) (hTO : IsPair s.heap TO a b)
    (h1 : s.heap.IsStrIter i1 "str_ascii_iterator" x t k) (hx : x.cps[k]? = none)
    (hE : ∀ h' e, (∀ c o, c ≠ z → c ≠ TO → c ≠ i1 → c ≠ i2 → s.heap.get? c = some o → h'.get? c = some o) → (∃ o, h'.get? e = some o ∧ o.cls = .type "StopIteration") → E (.ref e) { s with heap := h' }) :
    wpAny (model prog w) A (Builtin.«zip.__next__» ⟨[.ref z], []⟩) Q E s := by
  show wpAny _ _ (field (.ref z) 2 >>= _) _ _ _
  refine wpAny_bind (wpAny_field hz rfl (x := .bool false) rfl ?_)
  show wpAny _ _ (field (.ref z) 3 >>= _) _ _ _
  refine wpAny_bind (wpAny_field hz rfl (x := .ref TI) rfl ?_)
  refine wpAny_bind (wpAny_seqItems hTI rfl ?_)
  show wpAny _ _ (Builtin.SmallTypes.ownedTupleIsFree (.ref z) >>= _) _ _ _
  refine wpAny_bind ?_
  unfold Builtin.SmallTypes.ownedTupleIsFree
  refine wpAny_bind (wpAny_field hz rfl (x := .none) rfl (wpAny_pure ?_))
  simp only [if_true]
  refine wpAny_bind (wpAny_rule ?_)
  refine wpAny_bind (wpAny_field hz rfl (x := .ref TO) rfl ?_)
  refine wpAny_bind (wpAny_setField_rec hz (by simp) fun h₁ hz₁ hs₁ => ?_)
  replace hz₁ : IsZip h₁ z TI TO .ellipsis := hz₁
  refine wpAny_bind ?_
  simp only [List.zipIdx_cons, List.zipIdx_nil, List.forIn_cons, List.forIn_nil]
  refine wpAny_bind (wpAny_bind (wpAny_onRaise ?_))
  show wpAny _ _ (Builtin.SmallTypes.nextOf (.ref i1) >>= _) _ _ _
  refine wpAny_bind (wpAny_nextOf_ascii_end hh (h1.extBut hs₁.extBut D.i1z) hx fun h₂ e hs₂ he => ?_)
  obtain ⟨oe, hoe, hce⟩ := he
  have hz₂ : IsZip h₂ z TI TO .ellipsis := hs₂ _ _ D.i1z.symm hz₁
  have hez : e ≠ z := fun x => by subst x; rw [hz₂] at hoe; cases hoe; simp at hce
  refine wpAny_setField_rec hz₂ (by simp) fun h₃ _ hs₃ => hE h₃ e (fun c o c1 _ c3 _ x => hs₃.extBut _ _ c1 (hs₂ _ _ c3 (hs₁.extBut _ _ c1 x))) ⟨oe, hs₃.extBut _ _ hez hoe, hce⟩
theorem nextS_item {z TI TO i1 i2 : Addr} {k p q : Nat} {x y : Str} {t u : Tok} {a b : Value} {Q : Option Value → Shared → Prop} (D : ZA z TI TO i1 i2)
    (hz : IsZip s.heap z TI TO .none) (hTI : IsPair s.heap TI (.ref i1) (.ref i2)) (hTO : IsPair s.heap TO a b)
    (h1 : s.heap.IsStrIter i1 "str_ascii_iterator" x t k) (h2 : s.heap.IsStrIter i2 "str_ascii_iterator" y u k) (hx : x.cps[k]? = some p) (hy : y.cps[k]? = some q)
    (hQ : ∀ h' v v', IsZip h' z TI TO (rawInt s.heap.objs.size) → (∃ t', v = .str ⟨#[p]⟩ t') → (∃ t', v' = .str ⟨#[q]⟩ t') → IsPair h' TO v v' → h'.IsStrIter i1 "str_ascii_iterator" x t (k + 1) → h'.IsStrIter i2 "str_ascii_iterator" y u (k + 1) →
      IsPair h' s.heap.objs.size v v' → h'.objs.size = s.heap.objs.size + 1 → (∀ c o, c ≠ z → c ≠ TO → c ≠ i1 → c ≠ i2 → s.heap.get? c = some o → h'.get? c = some o) → ∀ tk, Q (some (.ref s.heap.objs.size)) { s with heap := h', toks := tk }) :
    wpAny (model prog w) A (pyNext (.ref z)) Q E s := by
  have hT : s.TypeIs (.ref z) "zip" := ⟨_, hz, rfl⟩
  unfold pyNext
  exact wpAny_bind (wpAny_attempt (wpAny_callSpecial?_slot (name := Str.ofString "__next__") hT F.slot_zip_next
    (wpAny_call_entry F.slot_zip_next hT F.entry_zip_next
      (zipS_item D hz hTI hTO h1 h2 hx hy fun h' v v' a1 a2 a3 a4 a5 a6 a7 a8 a9 tk => wpAny_pure (hQ h' v v' a1 a2 a3 a4 a5 a6 a7 a8 a9 tk)) (F.args_zip_next_1 _))))
theorem nextS_end {z TI TO i1 i2 : Addr} {k : Nat} {x : Str} {t : Tok} {a b : Value} {Q : Option Value → Shared → Prop} (hh : A.handled = none) (D : ZA z TI TO i1 i2)
    (hz : IsZip s.heap z TI TO .none) (hTI : IsPair s.heap TI (.ref i1) (.ref i2)) (hTO : IsPair s.heap TO a b)
    (h1 : s.heap.IsStrIter i1 "str_ascii_iterator" x t k) (hx : x.cps[k]? = none)
    (hQ : ∀ h', (∀ c o, c ≠ z → c ≠ TO → c ≠ i1 → c ≠ i2 → s.heap.get? c = some o → h'.get? c = some o) → Q none { s with heap := h' }) : wpAny (model prog w) A (pyNext (.ref z)) Q E s := by
  have hT : s.TypeIs (.ref z) "zip" := ⟨_, hz, rfl⟩
  unfold pyNext
  refine wpAny_bind (wpAny_attempt (wpAny_callSpecial?_slot (name := Str.ofString "__next__") hT F.slot_zip_next
    (wpAny_call_entry F.slot_zip_next hT F.entry_zip_next (zipS_end hh D hz hTI hTO h1 hx fun h' e hk he => ?_) (F.args_zip_next_1 _))))
  obtain ⟨o, ho, hc⟩ := he
  refine wpAny_bind (wpAny_isInstance (T := "StopIteration") (b := true) ⟨o, ho, hc⟩ isSubtype_stop ?_)
  exact wpAny_pure (hQ _ hk)
end
end Mine
end

section
set_option maxRecDepth 100000
set_option linter.unusedVariables false
set_option autoImplicit false
namespace Mine
open PySem
section
variable {E : CE} {L L' : CL} {H H' : CH} {p q : Pos} {v : CV} {c : CF} {P : Prop} {it it' : CIt}
theorem two_inv {o : CO} {a b : CV} (h : two o = some (a, b)) : o = .tup [a, b] := by
  cases o with
  | tup xs => rcases xs with _ | ⟨x, _ | ⟨y, _ | ⟨_, _⟩⟩⟩ <;> cases h; rfl
  | _ => cases h
theorem i_vals {x y : Str} {vs : List CV} {z : CL × CH} (h : bindVals E x y vs L H = some z) (k2 : ∀ v u, vs = [v, u] → bind2 E x y v u L H = some z → P) (k3 : ∀ n v u, vs = [.loc n] → H[n]? = some (.tup [v, u]) → bind2 E x y v u L H = some z → P) : P := by
  unfold bindVals at h
  split at h
  · exact k2 _ _ rfl h
  · split at h
    · split at h
      · rename_i e1
        split at h
        · rename_i e2; exact k3 _ _ _ rfl (by rw [e1, two_inv e2]) h
        · cases h
      · cases h
    · cases h
  · cases h
theorem i_bt {t : Expr} {vs : List CV} {z : CL × CH} (h : bindTarget E t vs L H = some z) (k1 : ∀ x px v, t = .Name x px → vs = [v] → setName E x v L H = some z → P)
    (k2 : ∀ x px y py k q, t = .Tuple [.Name x px, .Name y py] k q → bindVals E x y vs L H = some z → P) : P := by
  unfold bindTarget at h
  split at h
  · split at h
    · exact k1 _ _ _ rfl rfl h
    · cases h
  · split at h
    · rename_i e1; rw [namesOf_inv e1] at k2; exact k2 _ _ _ _ _ _ rfl h
    · cases h
  · cases h
theorem i_turnL {n i : Nat} {z : Option (List CV × CIt)} (h : turn (.list n i) H = some z) (k : ∀ xs, H[n]? = some (.list xs) → ((xs[i]? = none ∧ z = none) ∨ ∃ v, xs[i]? = some v ∧ z = some ([v], .list n (i + 1))) → P) : P := by
  simp only [turn] at h
  split at h
  · rename_i e1
    refine k _ e1 ?_
    split at h
    · rename_i e2; cases h; exact .inr ⟨_, e2, rfl⟩
    · rename_i e2; cases h; exact .inl ⟨e2, rfl⟩
  · cases h
theorem i_turnZ {x y : Str} {i : Nat} {z : Option (List CV × CIt)} (h : turn (.zip x y i) H = some z) (k1 : x.cps[i]? = none → z = none → P) (k2 : ∀ a b, x.cps[i]? = some a → y.cps[i]? = some b → z = some ([.str ⟨#[a]⟩, .str ⟨#[b]⟩], .zip x y (i + 1)) → P) : P := by
  simp only [turn] at h
  split at h
  · rename_i e1 e2; cases h; exact k2 _ _ e1 e2 rfl
  · rename_i e1; cases h; exact k1 e1 rfl
  · cases h
theorem i_turnI {vals : Bool} {n ep len i : Nat} {z : Option (List CV × CIt)} (h : turn (.items vals n ep len i) H = some z) (k : ∀ kvs, H[n]? = some (.dict kvs ep) → kvs.length = len →
    ((kvs[i]? = none ∧ z = none) ∨ ∃ k v, kvs[i]? = some (k, v) ∧ z = some (if vals then [.int v] else [.int k, .int v], .items vals n ep len (i + 1))) → P) : P := by
  simp only [turn] at h
  split at h
  · rename_i e1
    refine oi h fun hc h => ?_
    obtain ⟨rfl, hl, -⟩ := hc
    refine k _ e1 hl ?_
    split at h
    · rename_i e2; cases h; exact .inr ⟨_, _, e2, rfl⟩
    · rename_i e2; cases h; exact .inl ⟨e2, rfl⟩
  · cases h
theorem i_iter (h : iterOf v H = some it) (k1 : ∀ n xs, v = .loc n → H[n]? = some (.list xs) → it = .list n 0 → P) (k2 : ∀ n a b c, v = .loc n → H[n]? = some (.range a b c) → Builtin.Range.small a b c → it = .range a c (Builtin.Range.rangeSize a b c).toNat → P) : P := by
  unfold iterOf at h
  split at h
  · split at h
    · rename_i e1; cases h; exact k1 _ _ rfl e1 rfl
    · rename_i e1; exact oi h fun hs h => by cases h; exact k2 _ _ _ _ rfl e1 hs rfl
    · cases h
  · cases h
theorem i_env {scope : Scope} {E' : CE} (h : compEnv scope E H = some (E', H')) (k : okScope scope = true → ∀ cl, closureOf scope E.cells scope.names [] = some cl → E' = ⟨compScope scope E, (newCells scope.names cl H).1, E.lv, E.code, E.qual⟩ → H' = (newCells scope.names cl H).2 → P) : P := by
  unfold compEnv at h
  refine on h fun hs h => ?_
  have hs : okScope scope = true := by cases hb : okScope scope <;> first | rfl | exact absurd hb hs
  split at h
  · rename_i e1; cases h; exact k hs _ e1 rfl rfl
  · cases h
end
end Mine
end

section
set_option maxRecDepth 100000
set_option linter.unusedVariables false
set_option linter.unusedSectionVars false
set_option autoImplicit false
namespace Mine
open PySem PySem.W PyProof.Rows PySem.SeqAt
section
variable {prog : Program} {w : World} {h₁ : Heap} {T : Txt} {mg mb : Str → Option Value} {A : Around} {ρ ρ₁ : List Addr} {E : CE} {L L' : CL} {H H' : CH} {env : Env} {s : Shared} {c : CF} {hp₁ : Heap} {tk₁ : Nat} {X : List Addr} {it it' : CIt} {I : Addr} {h h' : Heap}
theorem ItR.there (p : ItR ρ h it I X) : ∀ a ∈ X, a < h.objs.size := by
  intro a m
  cases it with
  | list n i => obtain ⟨la, e, ⟨o, ho, _⟩, rfl⟩ := p; rw [List.mem_singleton.mp m]; exact Heap.lt_size ho
  | range x c k => obtain ⟨rfl, g⟩ := p; rw [List.mem_singleton.mp m]; exact Heap.lt_size g
  | zip x y i =>
    obtain ⟨TI, TO, i1, i2, a', b', t, u, rfl, nd, g1, g2, g3, ⟨o4, g4, _⟩, ⟨o5, g5, _⟩⟩ := p
    simp only [List.mem_cons, List.not_mem_nil, or_false] at m
    rcases m with rfl | rfl | rfl | rfl | rfl
    · exact Heap.lt_size g1
    · exact Heap.lt_size g2
    · exact Heap.lt_size g3
    · exact Heap.lt_size g4
    · exact Heap.lt_size g5
  | items vals n ep len i => cases vals with
    | false => obtain ⟨rfl, la, ok, ov, e, g⟩ := p; rw [List.mem_singleton.mp m]; exact Heap.lt_size g
    | true => obtain ⟨rfl, la, e, ⟨o, g, _⟩⟩ := p; rw [List.mem_singleton.mp m]; exact Heap.lt_size g
theorem ItR.at (p : ItR ρ h it I X) (pre : ρ <+: ρ₁) (k : ∀ a ∈ X, ∀ o, h.get? a = some o → h'.get? a = some o) : ItR ρ₁ h' it I X := by
  cases it with
  | list n i => obtain ⟨la, e, ⟨o, ho, q⟩, rfl⟩ := p; exact ⟨la, pre_get pre e, ⟨o, k I (.head _) o ho, q⟩, rfl⟩
  | range x c j => obtain ⟨rfl, g⟩ := p; exact ⟨rfl, k I (.head _) _ g⟩
  | zip x y i =>
    obtain ⟨TI, TO, i1, i2, a', b', t, u, rfl, nd, g1, g2, g3, g4, g5⟩ := p
    exact ⟨TI, TO, i1, i2, a', b', t, u, rfl, nd, k I (by simp) _ g1, k TI (by simp) _ g2, k TO (by simp) _ g3, IsStrIter_at g4 (k i1 (by simp)), IsStrIter_at g5 (k i2 (by simp))⟩
  | items vals n ep len i => cases vals with
    | false => obtain ⟨rfl, la, ok, ov, e, g⟩ := p; exact ⟨rfl, la, ok, ov, pre_get pre e, k I (.head _) _ g⟩
    | true => obtain ⟨rfl, la, e, ⟨o, g, q⟩⟩ := p; exact ⟨rfl, la, pre_get pre e, ⟨o, k I (.head _) _ g, q⟩⟩
theorem ItOk.step (p : ItOk ρ env h it I X) (st : Stp [env.locals] ρ h ρ₁ h') : ItOk ρ₁ env h' it I X := by
  refine ⟨p.rel.at st.pre fun a m o g => st.keep a o g (p.off a m).1 (ne91 (p.off a m).2.2) fun z => (p.off a m).2.1 (List.mem_singleton.mp z), fun a m => ⟨fun z => ?_, (p.off a m).2⟩⟩
  rcases st.fresh a z with z | z
  · exact (p.off a m).1 z
  · exact absurd (p.rel.there a m) (Nat.not_lt.mpr z)
theorem ItOk.sr (p : ItOk ρ env s.heap it I X) (S : SR h₁ T ρ H s.heap) (k : ∀ a o, s.heap.get? a = some o → a ∉ X → h'.get? a = some o) (z : s.heap.objs.size ≤ h'.objs.size) : SR h₁ T ρ H h' :=
  S.keeps (fun a o g m => k a o g fun x => m.elim (p.off a x).1 fun m => absurd (p.off a x).2.2 (Nat.not_le.mpr m)) z
/-- the loop ends -/
theorem turn_end (e : turn it H = some none) (ok : OkA E.lv A) (S : SR h₁ T ρ H s.heap) (p : ItOk ρ env s.heap it I X) {K : Option Value → Shared → Prop}
    (q : ∀ h', Stp X ρ s.heap ρ h' → SR h₁ T ρ H h' → K none { s with heap := h' }) : wpAny (model prog w) A (pyNext (.ref I)) K Fx s := by
  have fin : ∀ {h2 : Heap}, (∀ a o, s.heap.get? a = some o → a ∉ X → h2.get? a = some o) → s.heap.objs.size ≤ h2.objs.size → K none { s with heap := h2 } := fun kp hz => q _ (Stp.ext kp hz) (p.sr S kp hz)
  have rel := p.rel
  clear q p
  cases it with
  | list n i =>
    obtain ⟨la, ea, hi, rfl⟩ := rel
    refine i_turnL e fun xs hn hx => ?_
    rcases hx with ⟨hx, -⟩ | ⟨_, _, z⟩
    · obtain ⟨vs, m, gv, rv⟩ := S.obj _ _ la hn ea
      exact wpAny_grow (wpAny_pyNext_list_end ok.handled hi ⟨_, gv, rfl, _, rfl⟩ (Array.getElem?_eq_none (by rw [rv.isList]; exact List.getElem?_eq_none_iff.mp hx)) fun h2 he hz => fin (fun a o g x => he a o (fun y => x (y ▸ .head _)) g) hz)
    · cases z
  | range x c k =>
    obtain ⟨rfl, g⟩ := rel
    cases k with
    | succ k => cases e
    | zero => exact wpAny_grow (wpAny_pyNext_range_end ok.handled g (by simp) fun h2 he hz => fin (fun a o g x => he a o (fun y => x (y ▸ .head _)) g) hz)
  | zip x y i =>
    obtain ⟨TI, TO, i1, i2, a', b', t, u, rfl, nd, g1, g2, g3, g4, g5⟩ := rel
    exact i_turnZ e (fun hx _ => wpAny_grow (nextS_end ok.handled (ZA.of nd) g1 g2 g3 g4 hx fun h2 he hz => fin (fun a o g x => he a o (fun z => x (by simp [z])) (fun z => x (by simp [z])) (fun z => x (by simp [z])) (fun z => x (by simp [z])) g) hz)) fun _ _ _ _ z => nomatch z
  | items vals n ep len i =>
    refine i_turnI e fun kvs hn hlen hx => ?_
    rcases hx with ⟨hx, -⟩ | ⟨_, _, _, z⟩
    · cases vals with
      | false =>
        obtain ⟨rfl, la, ok', ov, ea, g⟩ := rel
        obtain ⟨es, gd, dr, nd⟩ := S.obj _ _ la hn ea
        obtain ⟨vs, da, lv, _, _⟩ := dr.dictAt (prog := prog) (w := w) gd nd
        have hx' : vs[i]? = none := by rw [List.getElem?_eq_none_iff] at hx ⊢; rw [lv]; exact hx
        exact wpAny_grow (wpAny_pyNext_items_end (knd := intKind prog w) ok.handled (kvs := vs) (by rw [lv, hlen]; exact g) da hx' fun h2 he hz => fin (fun a o g x => he a o (fun y => x (y ▸ .head _)) g) hz)
      | true =>
        obtain ⟨rfl, la, ea, g⟩ := rel
        obtain ⟨es, gd, dr, nd⟩ := S.obj _ _ la hn ea
        obtain ⟨vs, da, lv, _, _⟩ := dr.dictAt (prog := prog) (w := w) gd nd
        have hx' : vs[i]? = none := by rw [List.getElem?_eq_none_iff] at hx ⊢; rw [lv]; exact hx
        exact wpAny_grow (wpAny_pyNext_values_end (knd := intKind prog w) ok.handled (kvs := vs) (by rw [lv, hlen]; exact g) da hx' fun h2 he hz => fin (fun a o g x => he a o (fun y => x (y ▸ .head _)) g) hz)
    · cases z
/-- after a turn: the names are bound -/
noncomputable def PostT (h₁ : Heap) (T : Txt) (ρ : List Addr) (H' : CH) (L' : CL) (env : Env) (it' : CIt) (I : Addr) (X : List Addr) (s : Shared) (Q : Unit → Shared → Prop) : Prop :=
  ∀ h' tk, Stp (env.locals :: X) ρ s.heap ρ h' → SR h₁ T ρ H' h' → LR ρ L' env h' → ItOk ρ env h' it' I X → Q () { s with heap := h', toks := tk }
/-- where a turn stands, its item handed out -/
structure Mid (h₁ : Heap) (T : Txt) (ρ : List Addr) (H : CH) (L : CL) (E : CE) (env : Env) (it' : CIt) (I : Addr) (X : List Addr) (h h' : Heap) : Prop where
  st : Stp X ρ h ρ h'
  S : SR h₁ T ρ H h'
  R : ER ρ E env
  l : LR ρ L env h'
  io : ItOk ρ env h' it' I X
section
variable {Q : Unit → Shared → Prop} {x y : Str} {v u : CV} {a b : Value} {tk : Nat}
theorem Mid.grow (M : Mid h₁ T ρ H L E env it' I X h h') {h2 : Heap} (k : ∀ a o, h'.get? a = some o → h2.get? a = some o) (z : h'.objs.size ≤ h2.objs.size) : Mid h₁ T ρ H L E env it' I X h h2 :=
  ⟨M.st.trans (Stp.ext (X := X) (fun a o g _ => k a o g) z) fun _ m => .inl m, M.S.keeps (fun a o g _ => k a o g) z, M.R, let ⟨m, n, q⟩ := M.l; ⟨m, n.at fun o g => k _ o g, q⟩, ⟨M.io.rel.at (List.prefix_refl _) fun a _ o g => k a o g, M.io.off⟩⟩
theorem mid_name {px : Pos} (M : Mid h₁ T ρ H L E env it' I X s.heap h') (eb : setName E x v L H = some (L', H')) (va : VR ρ v a) (q : PostT h₁ T ρ H' L' env it' I X s Q) : wpAny (model prog w) A (assign (.Name x px) env a) Q Fx { s with heap := h', toks := tk } :=
  wpAny_assign_Name (nm_store (s := { s with heap := h', toks := tk }) eb M.S M.R M.l va fun h2 t2 st2 S2 l2 =>
    q h2 t2 ((M.st.weaken fun _ m => .inl (.tail _ m)).trans st2 fun a m => .inl (List.mem_singleton.mp m ▸ .head _)) S2 l2 (M.io.step st2))
theorem mid_pair {px py q' : Pos} {k : Nat} {pa : Addr} {m : Nat} (ok : OkA E.lv A) (M : Mid h₁ T ρ H L E env it' I X s.heap h') (g : h'.get? pa = some { cls := .type "tuple", data := .seq #[a, b] m }) (eb : bind2 E x y v u L H = some (L', H')) (va : VR ρ v a) (vb : VR ρ u b) (q : PostT h₁ T ρ H' L' env it' I X s Q) :
    wpAny (model prog w) A (assign (.Tuple [.Name x px, .Name y py] k q') env (.ref pa)) Q Fx { s with heap := h', toks := tk } := by
  rw [arm_assign_Tuple]
  refine wpAny_bind (wpAny_standAt ?_)
  unfold unpack
  refine wpAny_bind (wpAny_holding (wpAny_grow ?_))
  show wpAny (model prog w) A (unpackItems (.ref pa) (#[a, b] : Array Value).size none) _ _ _
  refine unpackItems_tuple (items := #[a, b]) ok.handled ⟨_, g, rfl, _, rfl⟩ fun h4 he4 hz4 => ?_
  dsimp only at he4 hz4 ⊢
  have M := M.grow (fun c o g => he4 c o (Nat.ne_of_lt (Heap.lt_size g)) g) hz4
  clear g he4 hz4
  refine i_bind2 eb fun L1 H1 e1 e2 => ?_
  show wpAny _ _ (holding [b] (assign (.Name x px) env a) >>= fun _ => holding [] (assign (.Name y py) env b) >>= fun _ => pure ()) _ _ _
  refine wpAny_bind (wpAny_holding (wpAny_assign_Name (nm_store (s := { s with heap := h4, toks := tk }) e1 M.S M.R M.l va fun h5 t5 st5 S5 l5 => ?_)))
  exact wpAny_bind (wpAny_holding (wpAny_assign_Name (nm_store (s := { s with heap := h5, toks := t5 }) e2 S5 (M.R.step st5 M.l.lt) l5 vb fun h6 t6 st6 S6 l6 => wpAny_pure
    (q h6 t6 (((M.st.weaken fun _ m => .inl (.tail _ m)).trans st5 fun a m => .inl (List.mem_singleton.mp m ▸ .head _)).trans st6 fun a m => .inl (List.mem_singleton.mp m ▸ .head _)) S6 l6 ((M.io.step st5).step st6)))))
theorem mid_one {t : Expr} (ok : OkA E.lv A) (M : Mid h₁ T ρ H L E env it' I [I] s.heap h') (eb : bindTarget E t [v] L H = some (L', H')) (va : VR ρ v a)
    (hlet : ∀ n, v = .loc n → ∀ (elts : List Expr) (x1 : Nat) (pos : Pos) (Q' : Unit → Shared → Prop), Q' () { s with heap := h', toks := tk } → wpAny (model prog w) A (letOwnedTupleGo (.Tuple elts x1 pos) (.ref I) a) Q' Fx { s with heap := h', toks := tk })
    (q : PostT h₁ T ρ H' L' env it' I [I] s Q) : wpAny (model prog w) A (letOwnedTupleGo t (.ref I) a) (fun _ s₂ => wpAny (model prog w) A (assign t env a) Q Fx s₂) Fx { s with heap := h', toks := tk } := by
  refine i_bt eb (fun x px v' ht hv e => ?_) fun x px y py k q' ht e => i_vals e (fun _ _ hv => nomatch hv) fun n v' u' hv hn e9 => ?_
  · subst ht
    cases hv
    exact wpAny_of_eq (rfl : letOwnedTupleGo (.Name x px) (.ref I) a = pure ()) (mid_name M e va q)
  · subst ht
    cases hv
    obtain ⟨ta, ea, rfl⟩ := va
    refine hlet _ rfl _ _ _ _ ?_
    obtain ⟨us, m, gt, rt⟩ := M.S.obj _ _ ta hn ea
    obtain - | ⟨va, - | ⟨vb, vn⟩⟩ := rt
    cases vn
    exact mid_pair ok M gt e9 va vb q
/-- an item that is a pair of its own -/
theorem mid_two {t : Expr} {pa : Addr} {m : Nat} (ok : OkA E.lv A) (eb : bindTarget E t [v, u] L H = some (L', H')) (va : VR ρ v a) (vb : VR ρ u b)
    (hlet : ∀ (elts : List Expr) (x1 : Nat) (pos : Pos) (Q' : Unit → Shared → Prop), (∀ h3, Mid h₁ T ρ H L E env it' I X s.heap h3 → h3.get? pa = some { cls := .type "tuple", data := .seq #[a, b] m } → Q' () { s with heap := h3, toks := tk }) →
      wpAny (model prog w) A (letOwnedTupleGo (.Tuple elts x1 pos) (.ref I) (.ref pa)) Q' Fx { s with heap := h', toks := tk })
    (q : PostT h₁ T ρ H' L' env it' I X s Q) : wpAny (model prog w) A (letOwnedTupleGo t (.ref I) (.ref pa)) (fun _ s₂ => wpAny (model prog w) A (assign t env (.ref pa)) Q Fx s₂) Fx { s with heap := h', toks := tk } := by
  refine i_bt eb (fun _ _ _ _ hv => nomatch hv) fun x px y py k q' ht e => i_vals e (fun v' u' hv e => ?_) fun _ _ _ hv => nomatch hv
  subst ht
  cases hv
  exact hlet _ _ _ _ fun h3 M g => mid_pair ok M g e va vb q
end
/-- a turn of the loop -/
theorem turn_ok {t : Expr} {vs : List CV} (e : turn it H = some (some (vs, it'))) (eb : bindTarget E t vs L H = some (L', H')) (ok : OkA E.lv A) (S : SR h₁ T ρ H s.heap) (R : ER ρ E env) (l : LR ρ L env s.heap) (p : ItOk ρ env s.heap it I X)
    {K : Option Value → Shared → Prop} {Q : Unit → Shared → Prop} (hK : ∀ v s', wpAny (model prog w) A (letOwnedTupleGo t (.ref I) v) (fun _ s₂ => wpAny (model prog w) A (assign t env v) Q Fx s₂) Fx s' → K (some v) s')
    (q : PostT h₁ T ρ H' L' env it' I X s Q) : wpAny (model prog w) A (pyNext (.ref I)) K Fx s := by
  have one : ∀ {h2 : Heap}, ItR ρ h2 it' I X → Heap.SameBut I s.heap h2 → X = [I] → Mid h₁ T ρ H L E env it' I X s.heap h2 := by
    intro h2 hi hs hX
    subst hX
    exact ⟨Stp.same hs (.inr (.head _)), S.off hs (p.off I (.head _)).1 (p.off I (.head _)).2.2, R, l.same (a := I) fun o ho => (hs.2 _ fun z => (p.off I (.head _)).2.1 z.symm).trans ho, ⟨hi, p.off⟩⟩
  have far : ∀ {h2 : Heap}, ItR ρ h2 it' I X → (∀ c o, s.heap.get? c = some o → c ∉ X → h2.get? c = some o) → s.heap.objs.size ≤ h2.objs.size → Mid h₁ T ρ H L E env it' I X s.heap h2 := fun hi up z =>
    ⟨Stp.ext up z, p.sr S up z, R, l.step R (Stp.ext up z) fun m => (p.off _ m).2.1 rfl, ⟨hi, p.off⟩⟩
  have rel := p.rel
  clear p l R
  cases it with
  | list n i =>
    obtain ⟨la, ea, hi, hX⟩ := rel
    refine i_turnL e fun xs hn hx => ?_
    rcases hx with ⟨_, z⟩ | ⟨v, hx, hz⟩
    · cases z
    · cases hz
      obtain ⟨us, m, gv, rv⟩ := S.obj _ _ la hn ea
      obtain ⟨y, hy, vy⟩ := rv.get hx
      refine wpAny_pyNext_list_item hi ⟨_, gv, rfl, _, rfl⟩ (x := y) (by simpa using hy) fun h2 hi2 hs => hK _ _ ?_
      have M := one ⟨la, ea, hi2, hX⟩ hs hX
      subst hX
      exact mid_one (tk := s.toks) ok M eb vy (fun n hv elts x1 pos Q' q' => by
        subst hv
        obtain ⟨ta, _, rfl⟩ := vy
        exact wpAny_letOwnedTupleGo_listiter hi2 q') q
  | range x c k =>
    obtain ⟨hX, g⟩ := rel
    cases k with
    | zero => cases e
    | succ k =>
      cases e
      refine wpAny_pyNext_range_item g (by (first | lia | omega)) fun h2 hi2 hs => hK _ _ ?_
      rw [show ((k + 1 : Nat) : Int) - 1 = (k : Int) by (first | lia | omega)] at hi2
      have M := one ⟨hX, hi2⟩ hs hX
      subst hX
      exact mid_one ok M eb ⟨_, rfl⟩ (fun n z => nomatch z) q
  | zip x y i =>
    obtain ⟨TI, TO, i1, i2, a', b', t1, t2, rfl, nd, g1, g2, g3, g4, g5⟩ := rel
    have D := ZA.of nd
    refine i_turnZ e (fun _ z => nomatch z) fun cp cq hx hy hz => ?_
    cases hz
    refine nextS_item D g1 g2 g3 g4 g5 hx hy fun h2 v v' z2 ev ev' to2 j1 j2 tup sz kp tk => hK _ _ (mid_two (m := 0) ok eb ev ev' (fun elts x1 pos Q' q' => wpAny_letOwnedTupleGo_zip z2 fun h3 z3 hs3 => q' h3 (far ?_ ?_ ?_) ?_) q)
    · exact ⟨TI, TO, i1, i2, v, v', t1, t2, rfl, nd, z3, hs3.extBut _ _ D.TIz (kp _ _ D.TIz D.TITO D.TIi1 D.TIi2 g2), hs3.extBut _ _ D.TOz to2, IsStrIter_at j1 fun o g => hs3.extBut _ _ D.i1z g, IsStrIter_at j2 fun o g => hs3.extBut _ _ D.i2z g⟩
    · exact fun c o g m => hs3.extBut _ _ (fun z => m (by simp [z])) (kp c o (fun z => m (by simp [z])) (fun z => m (by simp [z])) (fun z => m (by simp [z])) (fun z => m (by simp [z])) g)
    · rw [hs3.1, sz]; exact Nat.le_succ _
    · exact hs3.extBut _ _ (Nat.ne_of_gt (Heap.lt_size g1)) tup
  | items vals n ep len i =>
    refine i_turnI e fun kvs hn hlen hx => ?_
    rcases hx with ⟨_, z⟩ | ⟨ki, vi, hx, hz⟩
    · cases z
    · cases vals with
      | true =>
        cases hz
        obtain ⟨hX, la, ea, g⟩ := rel
        obtain ⟨es, gd, dr, nd⟩ := S.obj _ _ la hn ea
        obtain ⟨vs, da, lv, lg, _⟩ := dr.dictAt (prog := prog) (w := w) gd nd
        obtain ⟨u, hu⟩ := lg _ _ _ hx
        refine wpAny_pyNext_values_item (knd := intKind prog w) (kvs := vs) (by rw [lv, hlen]; exact g) da hu fun h2 g2 hs => hK _ _ ?_
        rw [lv, hlen] at g2
        have M := one ⟨hX, la, ea, g2⟩ hs hX
        subst hX
        exact mid_one (tk := s.toks) ok M eb ⟨u, rfl⟩ (fun n z => nomatch z) q
      | false =>
        cases hz
        obtain ⟨rfl, la, ok', ov, ea, g⟩ := rel
        obtain ⟨es, gd, dr, nd⟩ := S.obj _ _ la hn ea
        obtain ⟨vs, da, lv, lg, _⟩ := dr.dictAt (prog := prog) (w := w) gd nd
        obtain ⟨u, hu⟩ := lg _ _ _ hx
        refine wpAny_pyNext_items_item (knd := intKind prog w) (kvs := vs) (by rw [lv, hlen]; exact g) da hu fun key h2 hkey g2 tup sz kp => hK _ _ ?_
        obtain ⟨tk0, rfl⟩ := Value.isInt_shape hkey
        rw [lv, hlen] at g2
        refine mid_two (m := 0) (tk := s.toks) ok eb ⟨tk0, rfl⟩ ⟨u, rfl⟩ (fun elts x1 pos Q' q' => wpAny_letOwnedTupleGo_items g2 fun h3 g3 hs3 => q' h3 (far ⟨rfl, la, _, _, ea, g3⟩ (fun c o g m => ?_) ?_) ?_) q
        · exact hs3.extBut _ _ (fun z => m (by simp [z])) (kp c o (fun z => m (by simp [z])) g)
        · rw [hs3.1, sz]; exact Nat.le_succ _
        · exact hs3.extBut _ _ (Nat.ne_of_gt (Heap.lt_size g)) tup
theorem range_nonneg (x z c : Int) : 0 ≤ Builtin.Range.rangeSize x z c := by
  unfold Builtin.Range.rangeSize
  split <;> split
  · have := Int.ediv_nonneg (a := z - x - 1) (b := c) (by (first | lia | omega)) (by (first | lia | omega)); (first | lia | omega)
  · (first | lia | omega)
  · have := Int.ediv_nonneg (a := x - z - 1) (b := -c) (by (first | lia | omega)) (by (first | lia | omega)); (first | lia | omega)
  · (first | lia | omega)
/-- the loop's iterator -/
theorem iter_ok {v : CV} {y : Value} (e : iterOf v H = some it) (S : SR h₁ T ρ H s.heap) (R : ER ρ E env) (l : LR ρ L env s.heap) (vy : VR ρ v y) {Q : Value → Shared → Prop}
    (q : ∀ I X h', Stp [] ρ s.heap ρ h' → SR h₁ T ρ H h' → ItOk ρ env h' it I X → (∀ a ∈ X, s.heap.objs.size ≤ a) → Q (.ref I) { s with heap := h' }) : wpAny (model prog w) A (pyIter y) Q Fx s := by
  have off : ∀ a ∈ [s.heap.objs.size], a ∉ ρ ∧ a ≠ env.locals ∧ 110 ≤ a := fun a m => by
    rw [List.mem_singleton.mp m]
    exact ⟨fun z => absurd (S.lt z) (Nat.lt_irrefl _), fun z => absurd l.lt (z ▸ Nat.lt_irrefl _), S.size⟩
  refine i_iter e (fun n xs hv hn hi => ?_) fun n x z c hv hn hs hi => ?_
  · subst hv hi
    obtain ⟨a, ea, rfl⟩ := vy
    obtain ⟨us, m, gv, rv⟩ := S.obj _ _ a hn ea
    exact wpAny_pyIter_list ⟨_, gv, rfl, _, rfl⟩ (q _ [s.heap.objs.size] _ (Stp.push ..) (S.push _) ⟨⟨a, ea, ⟨_, Heap.get?_push_size _ rfl, rfl, rfl⟩, rfl⟩, off⟩ fun a m => by rw [List.mem_singleton.mp m]; exact Nat.le_refl _)
  · subst hv hi
    obtain ⟨a, ea, rfl⟩ := vy
    obtain ⟨t, u, v, g⟩ := S.obj _ _ a hn ea
    refine wpAny_pyIter_range g hs (q _ [s.heap.objs.size] _ (Stp.push ..) (S.push _) ⟨⟨rfl, ?_⟩, off⟩ fun a m => by rw [List.mem_singleton.mp m]; exact Nat.le_refl _)
    rw [Int.toNat_of_nonneg (range_nonneg x z c)]
    exact Heap.get?_push_size _ rfl
end
end Mine
end

section
set_option maxRecDepth 100000
set_option linter.unusedVariables false
set_option linter.unusedSectionVars false
set_option autoImplicit false
namespace Mine
open PySem PySem.W PyProof.Rows PySem.SeqAt
section
variable {prog : Program} {w : World} {h₁ : Heap} {T : Txt} {mg mb : Str → Option Value} {A : Around} {ρ ρ₁ : List Addr} {E : CE} {L L' : CL} {H H' : CH} {env : Env} {s : Shared} {c : CF} {hp₁ : Heap} {tk₁ : Nat} {X : List Addr} {it it' : CIt} {I : Addr} {h h' : Heap}
variable {H1 H2 H3 : CH} {L1 L2 : CL} {x t : Expr} {v : CV} {body : List Stmt} {pos : Pos} {vs : List CV}
/-- what may be turned over as it is -/
noncomputable def plainSrc : Expr → Bool
  | .Set .. => false
  | _ => true
theorem src_set (h : plainSrc x = true) (env : Env) (v : Value) : foldedSetIterable x env v = pure v := by
  cases x <;> first | rfl | cases h
theorem sc_of (hp : plainSrc x = true) (e : EvS prog w h₁ T E L x H v H1) (e' : iterOf v H1 = some it) : ScS prog w h₁ T E L x H it H1 :=
  ⟨src_set hp, fun ok S R l Q q => e ok S R l fun ρ1 x1 h1 t1 st1 S1 v1 => iter_ok e' S1 (R.step st1 l.lt) (l.ev R st1) v1 fun I X h2 st2 S2 io hX =>
    q ρ1 I X h2 t1 (st1.trans st2 fun _ m => nomatch m) S2 io fun a m => Nat.le_trans st1.size (hX a m)⟩
theorem st_For (e : ScS prog w h₁ T E L x H it H1) (e' : ForS prog w h₁ T E t it body L H1 c L' H') : ExS prog w h₁ T E (.For t x body [] pos) L H c L' H' := fun ok S R l Q p => by
  refine wpAny_For (e.run ok S R l fun ρ1 I X h1 t1 st1 S1 io hX => ?_) (e.set _)
  refine e' ok S1 (R.step st1 l.lt) (l.ev R st1) io fun ρ2 x2 h2 t2 st2 S2 l2 f2 => ?_
  refine p ρ2 x2 h2 t2 (st1.none.trans st2 fun a m => ?_) S2 l2 f2
  rcases List.mem_cons.mp m with m | m
  · exact .inl (m ▸ .head _)
  · exact .inr (hX a m)
theorem ItOk.nl (io : ItOk ρ env h it I X) : env.locals ∉ X := fun m => (io.off _ m).2.1 rfl
theorem fr_done (ht : turn it H = some none) : ForS prog w h₁ T E t it body L H .next L H := fun {A ρ env s I X} ok S R l io R' p =>
  code_for (turn_end ht ok S io fun h1 st1 S1 => p ρ _ h1 s.toks (st1.weaken fun _ m => .inl (.tail _ m)) S1 (l.step R st1 io.nl) rfl)
theorem fr_next (ht : turn it H = some (some (vs, it'))) (eb : bindTarget E t vs L H = some (L1, H1)) (ex : ExsS prog w h₁ T E body L1 H1 .next L2 H2) (e : ForS prog w h₁ T E t it' body L2 H2 c L' H') : ForS prog w h₁ T E t it body L H c L' H' := fun {A ρ env s I X} ok S R l io R' p => by
  refine code_for (turn_ok ht eb ok S R l io (fun v s' q => q) fun h1 t1 st1 S1 l1 io1 => ?_)
  refine ex ok S1 (R.step st1 l.lt) l1 fun ρ2 x2 h2 t2 st2 S2 l2 f2 => ?_
  cases f2
  exact e ok S2 ((R.step st1 l.lt).step st2 l1.lt) l2 (io1.step st2) fun ρ3 x3 h3 t3 st3 S3 l3 f3 =>
    p ρ3 x3 h3 t3 ((st1.trans st2 fun a m => .inl (List.mem_singleton.mp m ▸ .head _)).trans st3 fun _ m => .inl m) S3 l3 f3
theorem fr_brk (ht : turn it H = some (some (vs, it'))) (eb : bindTarget E t vs L H = some (L1, H1)) (ex : ExsS prog w h₁ T E body L1 H1 .brk L' H') : ForS prog w h₁ T E t it body L H .next L' H' := fun {A ρ env s I X} ok S R l io R' p => by
  refine code_for (turn_ok ht eb ok S R l io (fun v s' q => q) fun h1 t1 st1 S1 l1 io1 => ?_)
  refine ex ok S1 (R.step st1 l.lt) l1 fun ρ2 x2 h2 t2 st2 S2 l2 f2 => ?_
  cases f2
  exact p ρ2 _ h2 t2 (st1.trans st2 fun a m => .inl (List.mem_singleton.mp m ▸ .head _)) S2 l2 rfl
theorem fr_ret (ht : turn it H = some (some (vs, it'))) (eb : bindTarget E t vs L H = some (L1, H1)) (ex : ExsS prog w h₁ T E body L1 H1 (.ret v) L' H') : ForS prog w h₁ T E t it body L H (.ret v) L' H' := fun {A ρ env s I X} ok S R l io R' p => by
  refine code_for (turn_ok ht eb ok S R l io (fun v s' q => q) fun h1 t1 st1 S1 l1 io1 => ?_)
  refine ex ok S1 (R.step st1 l.lt) l1 fun ρ2 x2 h2 t2 st2 S2 l2 f2 => ?_
  obtain ⟨y, rfl, vy⟩ := f2
  exact p ρ2 _ h2 t2 (st1.trans st2 fun a m => .inl (List.mem_singleton.mp m ▸ .head _)) S2 l2 ⟨y, rfl, vy⟩
theorem wh_done (et : TsS prog w h₁ T E L t H false H1) : WhS prog w h₁ T E t body L H .next L H1 := fun ok S R l R' p =>
  code_while (et ok S R l fun ρ1 h1 t1 st1 S1 => p ρ1 _ h1 t1 st1.none S1 (l.ev R st1) rfl)
theorem wh_next (et : TsS prog w h₁ T E L t H true H1) (ex : ExsS prog w h₁ T E body L H1 .next L2 H2) (e : WhS prog w h₁ T E t body L2 H2 c L' H') : WhS prog w h₁ T E t body L H c L' H' := fun {A ρ env s} ok S R l R' p => by
  refine code_while (et ok S R l fun ρ1 h1 t1 st1 S1 => ?_)
  show wpAny _ _ (execs body env) _ _ _
  refine ex ok S1 (R.step st1 l.lt) (l.ev R st1) fun ρ2 x2 h2 t2 st2 S2 l2 f2 => ?_
  cases f2
  exact e ok S2 ((R.step st1 l.lt).step st2 (l.ev R st1).lt) l2 fun ρ3 x3 h3 t3 st3 S3 l3 f3 =>
    p ρ3 x3 h3 t3 ((st1.none.trans st2 fun _ m => .inl m).trans st3 fun _ m => .inl m) S3 l3 f3
end
end Mine
end

section
set_option maxRecDepth 100000
set_option linter.unusedVariables false
set_option linter.unusedSectionVars false
set_option autoImplicit false
namespace Mine
open PySem PySem.W PyProof.Rows PySem.SeqAt
section
variable {prog : Program} {w : World} {A : Around} {s : Shared} {env : Env} {R : Result → Shared → Prop}
theorem code_comp_list {elt t iter : Expr} {ifs : List Expr} {scope : Scope} {pos : Pos} {it acc : Value}
    (h : wpAny (model prog w) A (pyNext it) (fun r s₁ => match r with
      | none => R (.ok .next) s₁
      | some v => wpAny (model prog w) A (letOwnedTupleGo t it v) (fun _ s₂ => wpAny (model prog w) A (assign t env v) (fun _ s₃ =>
          wpAny (model prog w) A (forIn ifs true fun c r => if r = true then do let ok ← isTrue c env (eval c env); pure (ForInStep.yield ok) else pure (ForInStep.yield r)) (fun ok s₄ =>
            if ok = true then wpAny (model prog w) A (eval elt env) (fun x s₅ => wpAny (model prog w) A (call (.builtin "list.append") [acc, x]) (fun _ s₆ =>
              codeAny (model prog w) A (.compLoop (.ListComp elt [⟨t, iter, ifs, 0⟩] scope pos) 0 it acc env) R s₆) Fx s₅) Fx s₄
            else codeAny (model prog w) A (.compLoop (.ListComp elt [⟨t, iter, ifs, 0⟩] scope pos) 0 it acc env) R s₄) Fx s₃) Fx s₂) Fx s₁) Fx s) :
    codeAny (model prog w) A (.compLoop (.ListComp elt [⟨t, iter, ifs, 0⟩] scope pos) 0 it acc env) R s := by
  refine codeAny_of_tree ?_
  rw [Around.under_of_weight (c := .compLoop (.ListComp elt [⟨t, iter, ifs, 0⟩] scope pos) 0 it acc env) rfl]
  show wpAny _ A ((compTurn (.ListComp elt [⟨t, iter, ifs, 0⟩] scope pos) 0 it acc env).onRaise (fun x => do noteFrame x env; theTreesLotGoes x)) _ _ s
  refine wpAny_noted (fx_noted ?_)
  rw [compTurn_list]
  refine wpAny_bind (wpAny_standAt (wpAny_bind (wpAny_mono h (fun r s₁ h₁ => ?_) fun _ _ h' => h')))
  cases r with
  | none => exact wpAny_pure h₁
  | some v =>
    refine wpAny_bind (wpAny_mono h₁ (fun _ s₂ h₂ => wpAny_bind (wpAny_mono h₂ (fun _ s₃ h₃ => wpAny_bind (wpAny_mono h₃ (fun ok s₄ h₄ => ?_) fun _ _ h' => h')) fun _ _ h' => h')) fun _ _ h' => h')
    cases ok with
    | false =>
      simp only [Bool.false_eq_true, if_false] at h₄
      exact wpAny_pure ⟨rfl, h₄⟩
    | true =>
      simp only [if_true] at h₄
      exact wpAny_bind (wpAny_bind (wpAny_mono h₄ (fun x s₅ h₅ => wpAny_bind (wpAny_mono h₅ (fun _ s₆ h₆ => wpAny_pure (wpAny_pure ⟨rfl, h₆⟩)) fun _ _ h' => h')) fun _ _ h' => h'))
theorem code_comp_dict {kx vx t iter : Expr} {ifs : List Expr} {scope : Scope} {pos : Pos} {it : Value} {D : Addr}
    (h : wpAny (model prog w) A (pyNext it) (fun r s₁ => match r with
      | none => R (.ok .next) s₁
      | some v => wpAny (model prog w) A (letOwnedTupleGo t it v) (fun _ s₂ => wpAny (model prog w) A (assign t env v) (fun _ s₃ =>
          wpAny (model prog w) A (forIn ifs true fun c r => if r = true then do let ok ← isTrue c env (eval c env); pure (ForInStep.yield ok) else pure (ForInStep.yield r)) (fun ok s₄ =>
            if ok = true then wpAny (model prog w) A (eval kx env) (fun k s₅ => wpAny (model prog w) A (eval vx env) (fun x s₅' => wpAny (model prog w) A (dictSet D k x) (fun _ s₆ =>
              codeAny (model prog w) A (.compLoop (.DictComp kx vx [⟨t, iter, ifs, 0⟩] scope pos) 0 it (.ref D) env) R s₆) Fx s₅') Fx s₅) Fx s₄
            else codeAny (model prog w) A (.compLoop (.DictComp kx vx [⟨t, iter, ifs, 0⟩] scope pos) 0 it (.ref D) env) R s₄) Fx s₃) Fx s₂) Fx s₁) Fx s) :
    codeAny (model prog w) A (.compLoop (.DictComp kx vx [⟨t, iter, ifs, 0⟩] scope pos) 0 it (.ref D) env) R s := by
  refine codeAny_of_tree ?_
  rw [Around.under_of_weight (c := .compLoop (.DictComp kx vx [⟨t, iter, ifs, 0⟩] scope pos) 0 it (.ref D) env) rfl]
  show wpAny _ A ((compTurn (.DictComp kx vx [⟨t, iter, ifs, 0⟩] scope pos) 0 it (.ref D) env).onRaise (fun x => do noteFrame x env; theTreesLotGoes x)) _ _ s
  refine wpAny_noted (fx_noted ?_)
  rw [compTurn_dict]
  refine wpAny_bind (wpAny_standAt (wpAny_bind (wpAny_mono h (fun r s₁ h₁ => ?_) fun _ _ h' => h')))
  cases r with
  | none => exact wpAny_pure h₁
  | some v =>
    refine wpAny_bind (wpAny_mono h₁ (fun _ s₂ h₂ => wpAny_bind (wpAny_mono h₂ (fun _ s₃ h₃ => wpAny_bind (wpAny_mono h₃ (fun ok s₄ h₄ => ?_) fun _ _ h' => h')) fun _ _ h' => h')) fun _ _ h' => h')
    cases ok with
    | false =>
      simp only [Bool.false_eq_true, if_false] at h₄
      exact wpAny_pure ⟨rfl, h₄⟩
    | true =>
      simp only [if_true] at h₄
      exact wpAny_bind (wpAny_bind (wpAny_mono h₄ (fun kv s₄ h₄ => wpAny_bind (wpAny_holding (wpAny_mono h₄ (fun vv s₅ h₅ => wpAny_bind (wpAny_standAt (wpAny_holding (wpAny_mono h₅ (fun _ s₆ h₆ => wpAny_pure ⟨rfl, h₆⟩) fun _ _ h' => h')))) fun _ _ h' => h'))) fun _ _ h' => h'))
end
section
variable {prog : Program} {w : World} {h₁ : Heap} {T : Txt} {mg mb : Str → Option Value} {A : Around} {ρ ρ₁ : List Addr} {E : CE} {L L' : CL} {H H' : CH} {env : Env} {s : Shared} {c : CF} {hp₁ : Heap} {tk₁ : Nat} {X : List Addr} {it it' : CIt} {I : Addr} {h h' : Heap}
theorem append_call {E' : Value → Shared → Prop} {l : Addr} {vs : List Value} {n : Nat} {x : Value} {Q : Value → Shared → Prop} (hl : s.heap.get? l = some { cls := .type "list", data := .seq (List.toArray vs) n }) (hz : vs.length ≤ 1001)
    (hQ : Q .none { s with heap := s.heap.update l (Obj.mapSeq (·.push x)) }) : wpAny (model prog w) A (call (.builtin "list.append") [.ref l, x]) Q E' s := by
  have hT : s.TypeIs (.ref l) "list" := ⟨_, hl, rfl⟩
  refine wpAny_call_entry slot_list_append hT entry_list_append ?_ (args_list_append _ _)
  show wpAny _ _ (updateSeq l (·.push x) >>= fun _ => ret .none) _ _ s
  exact wpAny_bind (wpAny_updateSeq hl rfl (wpAny_pure ⟨.none, rfl, hQ⟩) (by show (List.toArray vs).size ≤ sizeLine; rw [List.size_toArray]; exact Nat.le_trans hz (by decide)))
theorem PostK.after {R' : Result → Shared → Prop} (p : PostK h₁ T X ρ H' env s R') (st : Stp (env.locals :: X) ρ s.heap ρ₁ hp₁) : PostK h₁ T X ρ₁ H' env { s with heap := hp₁, toks := tk₁ } R' :=
  fun ρ' h' tk st' S' l' => p ρ' h' tk (st.trans st' (fun _ m => .inl m)) S' l'
/-- a comprehension's test -/
inductive TfS (prog : Program) (w : World) (h₁ : Heap) (T : Txt) (E : CE) (L : CL) : List Expr → CH → Bool → CH → Prop
  | nil {H : CH} : TfS prog w h₁ T E L [] H true H
  | one {t : Expr} {H : CH} {b : Bool} {H1 : CH} : TsS prog w h₁ T E L t H b H1 → TfS prog w h₁ T E L [t] H b H1
theorem tests_ok (ok : OkA E.lv A) {ifs : List Expr} {b : Bool} {H1 : CH} (S : SR h₁ T ρ H s.heap) (R : ER ρ E env) (l : LR ρ L env s.heap) (e : TfS prog w h₁ T E L ifs H b H1) {Q : Bool → Shared → Prop} (p : PostB h₁ T ρ H1 s b Q) :
    wpAny (model prog w) A (forIn ifs true fun c r => if r = true then do let ok ← isTrue c env (eval c env); pure (ForInStep.yield ok) else pure (ForInStep.yield r)) Q Fx s := by
  cases e with
  | nil => exact wpAny_tests_nil (p ρ s.heap s.toks (Stp.refl ..) S)
  | one e => exact wpAny_tests_one (e ok S R l p)
variable {vs xs : List CV} {L1 : CL} {H1 H2 H3 : CH} {t iter elt kx vx : Expr} {ifs : List Expr} {b : Bool} {scope : Scope} {pos : Pos} {acc : Nat}
/-- a comprehension's turn, up to its test -/
theorem go_ok {R' : Result → Shared → Prop} {W V : Shared → Prop} (ht : turn it H = some (some (vs, it'))) (eb : bindTarget E t vs L H = some (L1, H1)) (et : TfS prog w h₁ T E L1 ifs H1 b H2) (ok : OkA E.lv A) (S : SR h₁ T ρ H s.heap) (R : ER ρ E env) (l : LR ρ L env s.heap) (io : ItOk ρ env s.heap it I X)
    (p : PostK h₁ T X ρ H' env s R')
    (k : ∀ {ρ2 : List Addr} {h2 : Heap} {t2 : Nat}, ρ <+: ρ2 → SR h₁ T ρ2 H2 h2 → ER ρ2 E env → LR ρ2 L1 env h2 → ItOk ρ2 env h2 it' I X → PostK h₁ T X ρ2 H' env { s with heap := h2, toks := t2 } R' → if b = true then W { s with heap := h2, toks := t2 } else V { s with heap := h2, toks := t2 }) :
    wpAny (model prog w) A (pyNext (.ref I)) (fun r s₁ => match r with
      | none => R' (.ok .next) s₁
      | some v => wpAny (model prog w) A (letOwnedTupleGo t (.ref I) v) (fun _ s₂ => wpAny (model prog w) A (assign t env v) (fun _ s₃ =>
          wpAny (model prog w) A (forIn ifs true fun c r => if r = true then do let ok ← isTrue c env (eval c env); pure (ForInStep.yield ok) else pure (ForInStep.yield r)) (fun ok s₄ =>
            if ok = true then W s₄ else V s₄) Fx s₃) Fx s₂) Fx s₁) Fx s := by
  refine turn_ok ht eb ok S R l io (fun v s' q => q) fun h1 t1 st1 S1 l1 io1 => ?_
  have R1 := R.step st1 l.lt
  exact tests_ok ok S1 R1 l1 et fun ρ2 h2 t2 st2 S2 => k st2.pre S2 (R1.step st2 l1.lt) (l1.ev R1 st2) (io1.step st2.none) ((p.after (tk₁ := t1) st1).after (tk₁ := t2) st2.none)
theorem cm_end {R' : Result → Shared → Prop} (ht : turn it H = some none) (ok : OkA E.lv A) (S : SR h₁ T ρ H s.heap) (R : ER ρ E env) (l : LR ρ L env s.heap) (io : ItOk ρ env s.heap it I X) (p : PostK h₁ T X ρ H env s R') {K : Option Value → Shared → Prop} (hK : ∀ s', R' (.ok .next) s' → K none s') : wpAny (model prog w) A (pyNext (.ref I)) K Fx s :=
  turn_end ht ok S io fun h1 st1 S1 => by
    obtain ⟨m, n, _⟩ := l.step R st1 io.nl
    exact hK _ (p ρ h1 s.toks (st1.weaken fun _ m => .inl (.tail _ m)) S1 ⟨m, n⟩)
theorem cm_done (ht : turn it H = some none) : CmS prog w h₁ T E (.ListComp elt [⟨t, iter, ifs, 0⟩] scope pos) it acc L H H := fun ok S R l io ha R' p => code_comp_list (cm_end ht ok S R l io p fun _ h => h)
theorem cm_doneD (ht : turn it H = some none) : CmS prog w h₁ T E (.DictComp kx vx [⟨t, iter, ifs, 0⟩] scope pos) it acc L H H := fun ok S R l io ha R' p => code_comp_dict (cm_end ht ok S R l io p fun _ h => h)
theorem cm_skip (ht : turn it H = some (some (vs, it'))) (eb : bindTarget E t vs L H = some (L1, H1)) (et : TfS prog w h₁ T E L1 ifs H1 false H2) (ec : CmS prog w h₁ T E (.ListComp elt [⟨t, iter, ifs, 0⟩] scope pos) it' acc L1 H2 H') :
    CmS prog w h₁ T E (.ListComp elt [⟨t, iter, ifs, 0⟩] scope pos) it acc L H H' := fun ok S R l io ha R' p =>
  code_comp_list (go_ok ht eb et ok S R l io p fun pre S2 R2 l2 io2 p2 => ec ok S2 R2 l2 io2 (pre_get pre ha) p2)
theorem cm_skipD (ht : turn it H = some (some (vs, it'))) (eb : bindTarget E t vs L H = some (L1, H1)) (et : TfS prog w h₁ T E L1 ifs H1 false H2) (ec : CmS prog w h₁ T E (.DictComp kx vx [⟨t, iter, ifs, 0⟩] scope pos) it' acc L1 H2 H') :
    CmS prog w h₁ T E (.DictComp kx vx [⟨t, iter, ifs, 0⟩] scope pos) it acc L H H' := fun ok S R l io ha R' p =>
  code_comp_dict (go_ok ht eb et ok S R l io p fun pre S2 R2 l2 io2 p2 => ec ok S2 R2 l2 io2 (pre_get pre ha) p2)
theorem cm_add {v : CV} (ht : turn it H = some (some (vs, it'))) (eb : bindTarget E t vs L H = some (L1, H1)) (et : TfS prog w h₁ T E L1 ifs H1 true H2) (e1 : EvS prog w h₁ T E L1 elt H2 v H3) (hx : H3[acc]? = some (.list xs)) (hz : acc ≠ 0 ∧ xs.length ≤ 1000)
    (ec : CmS prog w h₁ T E (.ListComp elt [⟨t, iter, ifs, 0⟩] scope pos) it' acc L1 (H3.set acc (.list (xs ++ [v]))) H') : CmS prog w h₁ T E (.ListComp elt [⟨t, iter, ifs, 0⟩] scope pos) it acc L H H' := fun ok S R l io ha R' p => by
  refine code_comp_list (go_ok ht eb et ok S R l io p fun {ρ2 h2 t2} pre S2 R2 l2 io2 p2 => e1 ok S2 R2 l2 fun ρ3 x3 h3 t3 st3 S3 v3 => ?_)
  have ea := pre_get st3.pre (pre_get pre ha)
  have R3 := R2.step st3 l2.lt
  have l3 := l2.ev R2 st3
  obtain ⟨us, k, gu, ru⟩ := S3.obj _ _ _ hx ea
  refine append_call gu (by rw [ru.length]; exact Nat.le_succ_of_le hz.2) ?_
  have st4 : Stp [] ρ3 h3 ρ3 (h3.update _ (Obj.mapSeq (·.push x3))) := Stp.put _ (List.mem_of_getElem? ea)
  exact ec ok (S3.list_put (ys := xs ++ [v]) (us := us ++ [x3]) (f := (·.push x3)) hx ea hz.1 gu (by simp) (ru.append (.cons v3 .nil))) (R3.step st4 l3.lt) (l3.ev R3 st4) ((io2.step st3.none).step st4.none) ea ((p2.after (tk₁ := t3) st3.none).after st4.none)
theorem cm_addD {i j : Int} {ep : Nat} {kvs : List (Int × Int)} {H4 : CH} (ht : turn it H = some (some (vs, it'))) (eb : bindTarget E t vs L H = some (L1, H1)) (et : TfS prog w h₁ T E L1 ifs H1 true H2) (e1 : EvS prog w h₁ T E L1 kx H2 (.int i) H3) (e2 : EvS prog w h₁ T E L1 vx H3 (.int j) H4)
    (hx : H4[acc]? = some (.dict kvs ep)) (hz : acc ≠ 0 ∧ 0 ≤ i ∧ i < 1000 ∧ kvs.length ≤ 1000 ∧ (kvs.lookup i).isNone)
    (ec : CmS prog w h₁ T E (.DictComp kx vx [⟨t, iter, ifs, 0⟩] scope pos) it' acc L1 (H4.set acc (.dict (kvs ++ [(i, j)]) (ep + 1))) H') : CmS prog w h₁ T E (.DictComp kx vx [⟨t, iter, ifs, 0⟩] scope pos) it acc L H H' := fun {A ρ env s I a X} ok S R l io ha R' p => by
  refine code_comp_dict (go_ok ht eb et ok S R l io p fun {ρ2 h2 t2} pre S2 R2 l2 io2 p2 => e1 ok S2 R2 l2 fun ρ3 x3 h3 t3 st3 S3 v3 => ?_)
  have R3 := R2.step st3 l2.lt
  have l3 := l2.ev R2 st3
  refine e2 ok S3 R3 l3 fun ρ4 x4 h4 t4 st4 S4 v4 => ?_
  have ea := pre_get st4.pre (pre_get st3.pre (pre_get pre ha))
  have R4 := R3.step st4 l3.lt
  have l4 := l3.ev R3 st4
  obtain ⟨es, ge, de, nd⟩ := S4.obj _ _ a hx ea
  obtain ⟨tk, rfl⟩ := v3
  obtain ⟨tv, rfl⟩ := v4
  have hn : kvs.lookup i = none := by simpa using hz.2.2.2.2
  refine put_dict ge de hn hz.2.2.2.1 fun h5 g5 hs5 => ?_
  have st5 : Stp [] ρ4 h4 ρ4 h5 := Stp.same hs5 (.inl (List.mem_of_getElem? ea))
  exact ec ok (S4.dict_put hx ea hz.1 de nd hn g5 hs5) (R4.step st5 l4.lt) (l4.ev R4 st5) (((io2.step st3.none).step st4.none).step st5.none) ea (((p2.after (tk₁ := t3) st3.none).after (tk₁ := t4) st4.none).after st5.none)
end
end Mine
end

section
set_option maxRecDepth 100000
set_option linter.unusedVariables false
set_option linter.unusedSectionVars false
set_option autoImplicit false
namespace Mine
open PySem PySem.W PyProof.Rows PySem.SeqAt
/-- cells by name -/
noncomputable def CR (ρ : List Addr) (cs : List (Str × Nat)) (cells : List (Str × Addr)) : Prop := ∀ (x : Str) (n : Nat), cs.lookup x = some n → ∃ a, cells.lookup x = some a ∧ ρ[n]? = some a
section
variable {prog : Program} {w : World} {h₁ : Heap} {T : Txt} {mg mb : Str → Option Value} {A : Around} {ρ ρ₁ : List Addr} {E : CE} {L L' : CL} {H H' : CH} {env : Env} {s : Shared} {c : CF} {hp₁ : Heap} {tk₁ : Nat} {X : List Addr} {it it' : CIt} {I : Addr} {h h' : Heap}
theorem CR.mono {cs : List (Str × Nat)} {cells : List (Str × Addr)} (p : CR ρ cs cells) (q : ρ <+: ρ₁) : CR ρ₁ cs cells := fun x n e => let ⟨a, u, v⟩ := p x n e; ⟨a, u, pre_get q v⟩
theorem CR.cons {cs : List (Str × Nat)} {cells : List (Str × Addr)} {x : Str} {n : Nat} {a : Addr} (p : CR ρ cs cells) (e : ρ[n]? = some a) : CR ρ ((x, n) :: cs) ((x, a) :: cells) := by
  intro y k z
  rw [List.lookup_cons] at z ⊢
  cases hb : y == x with
  | true => rw [hb] at z; cases z; exact ⟨a, rfl, e⟩
  | false => rw [hb] at z; exact p y k z
theorem Stp.new {X : List Addr} (S : SR h₁ T ρ H h) (o : Obj) : Stp X ρ h (ρ ++ [h.objs.size]) (h.push o) := by
  refine ⟨List.prefix_append _ _, fun a m => ?_, by rw [Heap.size_push]; (first | lia | omega), fun a o e _ _ _ => Heap.get?_push_of_some _ e⟩
  rcases List.mem_append.mp m with m | m
  · exact .inl m
  · rw [List.mem_singleton.mp m]; exact .inr (Nat.le_refl _)
theorem SR.at_new (S : SR h₁ T ρ H h) (b : Addr) : (ρ ++ [b])[H.length]? = some b := by rw [← S.len]; simp
theorem cells_ok : ∀ (names : List (Str × NameKind)) {ρ : List Addr} {H : CH} {h : Heap} {cs : List (Str × Nat)} {cells : List (Str × Addr)}, SR h₁ T ρ H h → CR ρ cs cells →
    ∃ ρ', Stp [] ρ h ρ' (pushCells h names) ∧ SR h₁ T ρ' (newCells names cs H).2 (pushCells h names) ∧ CR ρ' (newCells names cs H).1 (cellsFrom h.objs.size names cells)
  | [], ρ, H, h, cs, cells, S, C => ⟨ρ, Stp.refl .., S, C⟩
  | (n, k) :: rest, ρ, H, h, cs, cells, S, C => by
    unfold pushCells cellsFrom newCells
    by_cases hk : k = .cell
    · subst hk
      simp only [beq_self_eq_true, if_true]
      have S1 : SR h₁ T (ρ ++ [h.objs.size]) (H ++ [.cell none]) (h.push { cls := .type "cell", data := .cell none }) := S.track (by intro z; cases z) ⟨none, ⟨_, Heap.get?_push_size _ rfl, rfl⟩, rfl⟩
      have C1 : CR (ρ ++ [h.objs.size]) ((n, H.length) :: cs) ((n, h.objs.size) :: cells) := (C.mono (List.prefix_append _ _)).cons (S.at_new _)
      obtain ⟨ρ', st, S', C'⟩ := cells_ok rest S1 C1
      rw [Heap.size_push] at C'
      exact ⟨ρ', (Stp.new S _).trans st (fun _ m => nomatch m), S', C'⟩
    · have hb : (k == NameKind.cell) = false := beq_eq_false_iff_ne.mpr hk
      simp only [hb, hk, Bool.false_eq_true, if_false]
      exact cells_ok rest S C
theorem closure_go (R : ER ρ E env) {scope : Scope} (f : Str × NameKind → List (Str × Addr) → Sem (ForInStep (List (Str × Addr))))
    (hf : ∀ name kind cells, f (name, kind) cells = if kind == .free then (do let a ← cellOf env name; pure (.yield ((name, a) :: cells))) else pure (.yield cells)) :
    ∀ (names : List (Str × NameKind)) {acc : List (Str × Nat)} {accA : List (Str × Addr)} {cs : List (Str × Nat)}, closureOf scope E.cells names acc = some cs → CR ρ acc accA → ∃ cl, forIn names accA f = pure cl ∧ CR ρ cs cl
  | [], acc, accA, cs, e, C => by cases e; exact ⟨accA, by rw [List.forIn_nil], C⟩
  | (n, k) :: rest, acc, accA, cs, e, C => by
    unfold closureOf at e
    rw [List.forIn_cons, hf]
    by_cases hk : k = .free
    · subst hk
      simp only [if_true] at e
      split at e
      · rename_i c hc
        obtain ⟨a, ha, hr⟩ := R.cells n c hc
        obtain ⟨cl, e1, C1⟩ := closure_go R f hf rest e (C.cons (x := n) hr)
        refine ⟨cl, ?_, C1⟩
        have : cellOf env n = pure a := by unfold cellOf; rw [ha]
        rw [this]
        exact e1
      · cases e
    · have hb : (k == NameKind.free) = false := beq_eq_false_iff_ne.mpr hk
      simp only [hb, hk, Bool.false_eq_true, if_false] at e ⊢
      obtain ⟨cl, e1, C1⟩ := closure_go R f hf rest e C
      exact ⟨cl, e1, C1⟩
theorem closure_ok (R : ER ρ E env) {scope : Scope} {cs : List (Str × Nat)} (e : closureOf scope E.cells scope.names [] = some cs) : ∃ cl, closureFor scope env = pure cl ∧ CR ρ cs cl := by
  unfold closureFor
  obtain ⟨cl, e1, C1⟩ := closure_go (ρ := ρ) R (scope := scope) (fun x cs => if x.2 == .free then (do let a ← cellOf env x.1; pure (.yield ((x.1, a) :: cs))) else pure (.yield cs)) (fun _ _ _ => rfl) scope.names e (accA := []) (fun x n z => by cases z)
  refine ⟨cl, ?_, C1⟩
  show (forIn scope.names [] _ >>= _) = _
  have : (forIn scope.names ([] : List (Str × Addr)) fun x cs => if x.2 == .free then (do let a ← cellOf env x.1; pure (ForInStep.yield ((x.1, a) :: cs))) else pure (ForInStep.yield cs) : Sem _) = pure cl := e1
  first
    | (rw [this]; rfl)
    | (simp only [this]; rfl)
theorem relabel_eq (R : ER ρ E env) (scope : Scope) : relabel scope env = compScope scope E := by
  unfold relabel compScope
  rw [R.scope]
  congr 1
  refine List.map_congr_left fun x _ => ?_
  obtain ⟨n, k⟩ := x
  dsimp only
  rw [R.kindOf n]
theorem okScope_split {sc : Scope} (h : okScope sc = true) : sc.kind = .function ∧ sc.names.lookup ("__debug__" : Str) = none ∧ sc.names.lookup ("__classdict__" : Str) = none ∧ ∀ x ∈ sc.names, x.2 = .local → sc.names.lookup x.1 = some .local := by
  unfold okScope at h
  simp only [Bool.and_eq_true, decide_eq_true_eq, Option.isNone_iff_eq_none, List.all_eq_true] at h
  exact ⟨h.1.1.1, h.1.1.2, h.1.2, h.2⟩
theorem comp_none {scope : Scope} {y : Str} (e : scope.names.lookup y = none) : (compScope scope E).names.lookup y = none := by
  unfold compScope
  dsimp only
  generalize scope.names = l at e
  induction l with
  | nil => rfl
  | cons p rest ih =>
    obtain ⟨n, k⟩ := p
    rw [List.lookup_cons] at e
    cases hb : y == n with
    | true => rw [hb] at e; cases e
    | false =>
      rw [hb] at e
      rw [List.map_cons, List.lookup_cons]
      split
      · rename_i hc
        split at hc <;> (rw [hb] at hc; cases hc)
      · exact ih e
theorem entry_itemiter : entryFor table "dict_itemiterator.__iter__" = some Builtin.«dict_keyiterator.__iter__» :=
  entryFor_alias (id' := "dict_keyiterator.__iter__") (by kernel_rfl) rfl (by decide +kernel) (by kernel_rfl)
theorem iter_self {E' : Value → Shared → Prop} (p : ItR ρ s.heap it I X) {Q : Value → Shared → Prop} (q : Q (.ref I) s) : wpAny (model prog w) A (pyIter (.ref I)) Q E' s := by
  cases it with
  | list n i => obtain ⟨la, e, hi, rfl⟩ := p; exact wpAny_pyIter_listiter hi q
  | range x c j => obtain ⟨rfl, g⟩ := p; exact wpAny_pyIter_rangeiter g q
  | zip x y i => obtain ⟨TI, TO, i1, i2, a', b', t1, t2, rfl, nd, g1, g2, g3, g4, g5⟩ := p; exact wpAny_pyIter_zip g1 q
  | items vals n ep len i => cases vals with
    | true => obtain ⟨rfl, la, e, g⟩ := p; exact wpAny_pyIter_valiter g q
    | false =>
      obtain ⟨rfl, la, ok, ov, e, g⟩ := p
      have hT : s.TypeIs (.ref I) "dict_itemiterator" := ⟨_, g, rfl⟩
      refine wpAny_pyIter_slot hT F.slot_dict_itemiterator_iter (wpAny_call_entry F.slot_dict_itemiterator_iter hT entry_itemiter ?_ (F.args_dict_itemiterator_iter_1 _))
      show wpAny _ _ (ret (.ref I)) _ _ s
      exact wpAny_pure ⟨_, rfl, "dict_itemiterator", _, hT, F.slot_dict_itemiterator_next.lookup, q⟩
end
end Mine
end

section
set_option maxRecDepth 100000
set_option linter.unusedVariables false
set_option linter.unusedSectionVars false
set_option autoImplicit false
namespace Mine
open PySem PySem.W PyProof.Rows PySem.SeqAt
section
variable {prog : Program} {w : World} {h₁ : Heap} {T : Txt} {mg mb : Str → Option Value} {A : Around} {ρ ρ₁ : List Addr} {E : CE} {L L' : CL} {H H' : CH} {env : Env} {s : Shared} {c : CF} {hp₁ : Heap} {tk₁ : Nat} {X : List Addr} {it it' : CIt} {I : Addr} {h h' : Heap}
theorem newEnv_comp {scope : Scope} {cl : List (Str × Addr)} {Q : Env → Shared → Prop} {E' : Value → Shared → Prop}
    (q : Q (newEnv scope s.heap.objs.size env.globals (cellsFrom (s.heap.objs.size + 1) scope.names cl) env.qual none .none (some env) builtinsNs) { s with heap := pushCells (s.heap.push { cls := .type "dict", data := .dict #[] }) scope.names }) :
    wpAny (model prog w) A (newFunctionEnv scope env.globals cl [] env.qual none .none (some env)) Q E' s := by
  simp only [newFunctionEnv, Option.isSome_some, if_true]
  refine wpAny_bind (wpAny_alloc ?_)
  refine wpAny_bind (wpAny_layCells _ (fun name kind cells => by cases hkc : kind == NameKind.cell <;> simp [hkc]) _ _ _ _ ?_)
  rw [show ({ s with heap := s.heap.push { cls := .type "dict", data := .dict #[] } } : Shared).heap.objs.size = s.heap.objs.size + 1 from Heap.size_push ..]
  exact wpAny_pure q
theorem comp_sim (ok : OkA E.lv A) (S : SR h₁ T ρ H s.heap) (R : ER ρ E env) (l : LR ρ L env s.heap)
    {x : Expr} {scope : Scope} {g : Comprehension} {pos : Pos} {newAcc : Sem Value} {ob : Obj} {o : CO} {use : Option (Value → Sem Unit)} {Q : Value → Shared → Prop} {H1 H2 : CH} {E1 : CE}
    (hcl : clausesOf x = [g]) (hacc : ∀ (s : Shared) (Q : Value → Shared → Prop), Q (.ref s.heap.objs.size) { s with heap := s.heap.push ob } → wpAny (model prog w) A newAcc Q Fx s)
    (ho : o ≠ .code) (hor : ∀ (ρ : List Addr) (h : Heap), OR T ρ (h.push ob) o h.objs.size)
    (hstart : ∀ {it acc : Value} {env : Env} {R : Result → Shared → Prop} {s : Shared}, codeAny (model prog w) A (.compLoop x 0 it acc env) R s →
      wpAny (model prog w) A (pyIter it) (fun it' s' => codeAny (model prog w) A (.compLoop x 0 it' acc env) R s') (notedBy (model prog w) A env fun x s' => R (.error x) s') s → codeAny (model prog w) A (.compStart x 0 it acc env) R s)
    (e1 : ScS prog w h₁ T E L g.iter H it H1) (e2 : compEnv scope E (H1 ++ [o]) = some (E1, H2)) (e3 : CmS prog w h₁ T E1 x it H1.length [] H2 H')
    (hk : ∀ ρ' C h' tk a, Stp [] ρ s.heap ρ' h' → SR h₁ T ρ' H' h' → ρ'[H1.length]? = some a → C ∉ ρ' → 110 ≤ C → s.heap.objs.size ≤ C → (∃ m, h'.Ns C m) → compPost (model prog w) A Fx use Q (.ref a) C (.ok .next) { s with heap := h', toks := tk }) :
    wpAny (model prog w) A (comprehension x scope env pos newAcc false (eval g.iter env) use) Q Fx s := by
  refine i_env e2 fun hsc cs ecl hE hH' => ?_
  subst hE hH'
  obtain ⟨k1, k2, k3, k4⟩ := okScope_split hsc
  obtain ⟨cl, hclos, C0⟩ := closure_ok R ecl
  clear e2 ecl
  refine wpAny_comprehension_free (g := g) (gs := []) hcl (e1.set env) hclos k1 k4 (e1.run ok S R l fun ρ1 I X h1 t1 st1 S1 io hX => hacc _ _ (newEnv_comp ?_))
  dsimp only
  have l1 := l.ev R st1
  -- the new list, followed
  have S2 : SR h₁ T (ρ1 ++ [h1.objs.size]) (H1 ++ [o]) (h1.push ob) := S1.track ho (hor _ _)
  have st2 : Stp [] ρ1 h1 (ρ1 ++ [h1.objs.size]) (h1.push ob) := Stp.new S1 _
  have hC : (h1.push ob).objs.size = h1.objs.size + 1 := Heap.size_push ..
  generalize hH : h1.push ob = h2 at S2 st2 hC ⊢
  -- the new names
  have S3 := S2.push { cls := .type "dict", data := .dict #[] }
  have st3 : Stp [] (ρ1 ++ [h1.objs.size]) h2 (ρ1 ++ [h1.objs.size]) (h2.push { cls := .type "dict", data := .dict #[] }) := Stp.push ..
  have n3 := Heap.Ns.new h2 (.type "dict")
  have sz3 : (h2.push { cls := .type "dict", data := .dict #[] }).objs.size = h2.objs.size + 1 := Heap.size_push ..
  generalize hH3 : h2.push { cls := .type "dict", data := .dict #[] } = h3 at S3 st3 n3 sz3 ⊢
  obtain ⟨ρ4, st4, S4, C4⟩ := cells_ok scope.names S3 ((C0.mono st1.pre).mono st2.pre)
  rw [sz3] at C4
  have n4 : (pushCells h3 scope.names).Ns h2.objs.size fun _ => none := n3.keeps (pushCells_keeps _ _)
  have lC : h2.objs.size < h3.objs.size := by rw [sz3]; exact Nat.lt_succ_self _
  have nC : h2.objs.size ∉ ρ4 := fun m => by
    rcases st4.fresh _ m with m | m
    · exact absurd (S2.lt m) (Nat.lt_irrefl _)
    · exact absurd lC (Nat.not_lt.mpr m)
  have hiC : 110 ≤ h2.objs.size := S2.size
  have st24 := (st2.trans st3 fun _ m => nomatch m).trans st4 fun _ m => nomatch m
  have st14 := st1.trans st24 fun _ m => nomatch m
  have sC : s.heap.objs.size ≤ h2.objs.size := Nat.le_trans st1.size st2.size
  have io4 := io.step (st24.none)
  have io' : ItOk ρ4 { newEnv scope h2.objs.size env.globals (cellsFrom (h2.objs.size + 1) scope.names cl) env.qual none .none (some env) builtinsNs with scope := relabel scope env } (pushCells h3 scope.names) it I X :=
    ⟨io4.rel, fun a m => ⟨(io4.off a m).1, fun z => by
      have : a < h1.objs.size := io.rel.there a m
      have z' : a = h2.objs.size := z
      rw [z', hC] at this
      exact absurd this (Nat.not_lt.mpr (Nat.le_succ _)), (io4.off a m).2.2⟩⟩
  have R' : ER ρ4 ⟨compScope scope E, (newCells scope.names cs (H1 ++ [o])).1, E.lv, E.code, E.qual⟩ { newEnv scope h2.objs.size env.globals (cellsFrom (h2.objs.size + 1) scope.names cl) env.qual none .none (some env) builtinsNs with scope := relabel scope env } :=
    ⟨relabel_eq R scope, k1, R.glob, R.bi, C4, nC, hiC, comp_none k2, comp_none k3, R.code, R.qual⟩
  have l' : LR ρ4 [] { newEnv scope h2.objs.size env.globals (cellsFrom (h2.objs.size + 1) scope.names cl) env.qual none .none (some env) builtinsNs with scope := relabel scope env } (pushCells h3 scope.names) := ⟨_, n4, fun x c z => by cases z⟩
  have at4 : ρ4[H1.length]? = some h1.objs.size := pre_get st4.pre (S1.at_new _)
  have go : codeAny (model prog w) A (.compLoop x 0 (.ref I) (.ref h1.objs.size) { newEnv scope h2.objs.size env.globals (cellsFrom (h2.objs.size + 1) scope.names cl) env.qual none .none (some env) builtinsNs with scope := relabel scope env })
      (compPost (model prog w) A Fx use Q (.ref h1.objs.size) h2.objs.size) { s with heap := pushCells h3 scope.names, toks := t1 } := by
    refine e3 ok S4 R' l' io' at4 fun ρ5 h5 t5 st5 S5 m5 => ?_
    have nC5 : h2.objs.size ∉ ρ5 := fun m => by
      rcases st5.fresh _ m with m | m
      · exact nC m
      · exact absurd n4.lt (Nat.not_lt.mpr m)
    refine hk ρ5 h2.objs.size h5 t5 _ (st14.trans st5 fun a m => ?_) S5 (pre_get st5.pre at4) nC5 hiC sC m5
    rcases List.mem_cons.mp m with m | m
    · exact .inr (m ▸ sC)
    · exact .inr (hX a m)
  exact hstart go (iter_self io'.rel go)
end
end Mine
end

section
set_option maxRecDepth 100000
set_option linter.unusedVariables false
set_option linter.unusedSectionVars false
set_option autoImplicit false
namespace Mine
open PySem PySem.W PyProof.Rows PySem.SeqAt
section
variable {prog : Program} {w : World} {h₁ : Heap} {T : Txt} {mg mb : Str → Option Value} {A : Around} {ρ ρ₁ : List Addr} {E : CE} {L L' : CL} {H H' : CH} {env : Env} {s : Shared} {c : CF} {hp₁ : Heap} {tk₁ : Nat} {X : List Addr} {it it' : CIt} {I : Addr} {h h' : Heap} {v : CV}
/-- what is known when a comprehension has run -/
noncomputable def PostC (prog : Program) (w : World) (A : Around) (h₁ : Heap) (T : Txt) (ρ : List Addr) (H' : CH) (s : Shared) (v : CV) (use : Option (Value → Sem Unit)) (Q : Value → Shared → Prop) : Prop :=
  ∀ ρ' C h' tk x, Stp [] ρ s.heap ρ' h' → SR h₁ T ρ' H' h' → VR ρ' v x → C ∉ ρ' → 110 ≤ C → s.heap.objs.size ≤ C → (∃ m, h'.Ns C m) → compPost (model prog w) A Fx use Q x C (.ok .next) { s with heap := h', toks := tk }
/-- a comprehension's parts -/
inductive CoS (prog : Program) (w : World) (h₁ : Heap) (T : Txt) (E : CE) (L : CL) : Expr → CH → CV → CH → Prop
  | list {elt : Expr} {g : Comprehension} {scope : Scope} {pos : Pos} {it : CIt} {H H1 H2 H3 : CH} {E1 : CE} : g.is_async = 0 → ScS prog w h₁ T E L g.iter H it H1 → compEnv scope E (H1 ++ [.list []]) = some (E1, H2) → CmS prog w h₁ T E1 (.ListComp elt [g] scope pos) it H1.length [] H2 H3 →
      CoS prog w h₁ T E L (.ListComp elt [g] scope pos) H (.loc H1.length) H3
  | dict {kx vx : Expr} {g : Comprehension} {scope : Scope} {pos : Pos} {it : CIt} {H H1 H2 H3 : CH} {E1 : CE} : g.is_async = 0 → ScS prog w h₁ T E L g.iter H it H1 → compEnv scope E (H1 ++ [.dict [] 0]) = some (E1, H2) → CmS prog w h₁ T E1 (.DictComp kx vx [g] scope pos) it H1.length [] H2 H3 →
      CoS prog w h₁ T E L (.DictComp kx vx [g] scope pos) H (.loc H1.length) H3
section
variable (ok : OkA E.lv A) (S : SR h₁ T ρ H s.heap) (R : ER ρ E env) (l : LR ρ L env s.heap) {H1 H2 : CH} {E1 : CE} {g : Comprehension} {scope : Scope} {pos pos' : Pos} {use : Option (Value → Sem Unit)} {Q : Value → Shared → Prop}
include ok S R l
theorem comp_list {elt : Expr} (ha : g.is_async = 0) (e1 : ScS prog w h₁ T E L g.iter H it H1) (e2 : compEnv scope E (H1 ++ [.list []]) = some (E1, H2)) (e3 : CmS prog w h₁ T E1 (.ListComp elt [g] scope pos) it H1.length [] H2 H') (p : PostC prog w A h₁ T ρ H' s (.loc H1.length) use Q) :
    wpAny (model prog w) A (comprehension (.ListComp elt [g] scope pos) scope env pos' (newList []) (firstAsync [g]) (firstIter [g] env) use) Q Fx s := by
  obtain ⟨t, iter, ifs, asy⟩ := g
  cases ha
  exact comp_sim ok S R l (g := ⟨t, iter, ifs, 0⟩) (o := .list []) (ob := { cls := .type "list", data := .seq (List.toArray []) }) rfl (fun s Q q => by unfold newList; exact wpAny_newObj_type q (by show 0 ≤ sizeLine; decide)) (fun z => nomatch z) (fun ρ h => ⟨[], 0, Heap.get?_push_size _ rfl, .nil⟩)
    (fun h0 h1 => codeAny_compStart_list h0 h1) e1 e2 e3 fun ρ' C h' tk a st S' ha n1 n2 n3 n4 => p ρ' C h' tk _ st S' ⟨a, ha, rfl⟩ n1 n2 n3 n4
theorem comp_dict {kx vx : Expr} (ha : g.is_async = 0) (e1 : ScS prog w h₁ T E L g.iter H it H1) (e2 : compEnv scope E (H1 ++ [.dict [] 0]) = some (E1, H2)) (e3 : CmS prog w h₁ T E1 (.DictComp kx vx [g] scope pos) it H1.length [] H2 H') (p : PostC prog w A h₁ T ρ H' s (.loc H1.length) use Q) :
    wpAny (model prog w) A (comprehension (.DictComp kx vx [g] scope pos) scope env pos' newDict (firstAsync [g]) (firstIter [g] env) use) Q Fx s := by
  obtain ⟨t, iter, ifs, asy⟩ := g
  cases ha
  exact comp_sim ok S R l (g := ⟨t, iter, ifs, 0⟩) (o := .dict [] 0) (ob := { cls := .type "dict", data := .dict (List.toArray []) }) rfl (fun s Q q => by unfold newDict; exact wpAny_newObj_type q) (fun z => nomatch z) (fun ρ h => ⟨[], Heap.get?_push_size _ rfl, .nil, List.nodup_nil⟩)
    (fun h0 h1 => codeAny_compStart_dict h0 h1) e1 e2 e3 fun ρ' C h' tk a st S' ha n1 n2 n3 n4 => p ρ' C h' tk _ st S' ⟨a, ha, rfl⟩ n1 n2 n3 n4
end
theorem PostV.comp {Q : Value → Shared → Prop} (p : PostV h₁ T ρ H' s v Q) : PostC prog w A h₁ T ρ H' s v none Q := by
  intro ρ' C h' tk x st S' vx n1 n2 n3 ⟨m, n⟩
  refine ⟨m, n, fun h2 hs => ?_⟩
  exact p ρ' x h2 tk (st.trans (Stp.same (X := [C]) hs (.inr (.head _))) fun a m => .inr (List.mem_singleton.mp m ▸ n3)) (SR.off (s := { s with heap := h', toks := tk }) S' hs n1 n2) vx
theorem ev_comp {x : Expr} (e : CoS prog w h₁ T E L x H v H') : EvS prog w h₁ T E L x H v H' := fun ok S R l Q p => by
  cases e with
  | list ha e1 e2 e3 => rw [arm_eval_ListComp]; exact comp_list ok S R l ha e1 e2 e3 p.comp
  | dict ha e1 e2 e3 => rw [arm_eval_DictComp]; exact comp_dict ok S R l ha e1 e2 e3 p.comp
/-- a comprehension that is stored before its names go -/
theorem use_ok (R : ER ρ E env) (l : LR ρ L env s.heap) {y : Str} {py : Pos} {H1 : CH} {Q : Unit → Shared → Prop} (e' : setName E y v L H1 = some (L', H')) (p : PostU h₁ T ρ H' L' env s Q) :
    PostC prog w A h₁ T ρ H1 s v (some fun x => assignAll x ((assignEach [.Name y py] env).map (·.2))) (fun _ => Q ()) := by
  intro ρ' C h' tk x st S' vx n1 n2 n3 ⟨m, n⟩
  show wpAny (model prog w) A (assign (.Name y py) env x) _ Fx _
  have R' := R.step st l.lt
  have l' := l.ev R st
  have nl : C ≠ env.locals := fun z => absurd l.lt (Nat.not_lt.mpr (z ▸ n3))
  refine wpAny_assign_Name (nm_store e' S' R' l' vx fun h2 t2 st2 S2 l2 => ?_)
  have n' : h2.Ns C m := n.at fun o ho => st2.keep C o ho n1 (ne91 n2) fun z => nl (List.mem_singleton.mp z)
  refine ⟨m, n', fun h3 hs => ?_⟩
  have st3 : Stp [C] ρ' h2 ρ' h3 := Stp.same hs (.inr (.head _))
  refine p ρ' h3 t2 ((st.none.trans st2 fun _ m => .inl m).trans st3 fun a m => .inr (List.mem_singleton.mp m ▸ n3)) (SR.off (s := { s with heap := h2, toks := t2 }) S2 hs n1 n2) ?_
  exact l2.same (a := C) fun o ho => (hs.2 _ (Ne.symm nl)).trans ho
theorem st_comp {x : Expr} {y : Str} {py pos : Pos} {H1 : CH} (e : CoS prog w h₁ T E L x H v H1) (e' : setName E y v L H1 = some (L', H')) : ExS prog w h₁ T E (.Assign [.Name y py] x pos) L H .next L' H' := by
  intro A ρ env s ok S R l Q p
  have pu : PostU h₁ T ρ H' L' env s (fun _ => Q .next) := fun ρ' h' tk st S' l' => p ρ' _ h' tk st S' l' rfl
  have pv : PostV h₁ T ρ H1 s v (fun x s₁ => wpAny (model prog w) A (assignAll x ((assignEach [.Name y py] env).map (·.2))) (fun _ => Q .next) Fx s₁) := by
    intro ρ1 x1 h1 t1 st1 S1 v1
    show wpAny (model prog w) A (assign (.Name y py) env x1) _ Fx _
    exact wpAny_assign_Name (store_ok e' S1 (R.step st1 l.lt) (l.ev R st1) v1 (pu.after st1.none))
  have pc : PostC prog w A h₁ T ρ H1 s v _ _ := use_ok R l (A := A) (prog := prog) (w := w) (py := py) (Q := fun _ s' => wpAny (model prog w) A (pure ()) (fun _ s' => wpAny (model prog w) A (pure Flow.next) Q Fx s') Fx s') e' fun ρ' h' tk st S' l' => wpAny_pure (wpAny_pure (pu ρ' h' tk st S' l'))
  have ev := ev_comp e ok S R l pv
  cases e with
  | @list elt g scope cpos _ _ _ _ _ _ ha e1 e2 e3 =>
    obtain ⟨b, hb⟩ : ∃ b, swapsWithSole [.Name y py] (.ListComp elt [g] scope cpos) pos.line env = pure b := ⟨_, rfl⟩
    cases b with
    | false => exact wpAny_Assign_stores ev hb rfl
    | true =>
      rw [exec_Assign_arm]
      refine wpAny_bind (wpAny_standAt ?_)
      rw [hb]
      refine wpAny_bind (wpAny_pure ?_)
      rw [if_pos rfl]
      exact wpAny_bind (wpAny_bind (comp_list ok S R l ha e1 e2 e3 pc))
  | @dict kx vx g scope cpos _ _ _ _ _ _ ha e1 e2 e3 =>
    obtain ⟨b, hb⟩ : ∃ b, swapsWithSole [.Name y py] (.DictComp kx vx [g] scope cpos) pos.line env = pure b := ⟨_, rfl⟩
    cases b with
    | false => exact wpAny_Assign_stores ev hb rfl
    | true =>
      rw [exec_Assign_arm]
      refine wpAny_bind (wpAny_standAt ?_)
      rw [hb]
      refine wpAny_bind (wpAny_pure ?_)
      rw [if_pos rfl]
      exact wpAny_bind (wpAny_bind (comp_dict ok S R l ha e1 e2 e3 pc))
end
end Mine
end

section
set_option maxRecDepth 100000
set_option linter.unusedVariables false
set_option linter.unusedSectionVars false
set_option autoImplicit false
namespace Mine
open PySem PySem.W PyProof.Rows PySem.SeqAt
structure FnObj (h₁ : Heap) (f : Fn) : Prop where
  obj : ∃ o fd, h₁.get? f.addr = some o ∧ o.data = .func fd ∧ fd.scope = f.scope ∧ fd.body = .stmts f.body ∧ fd.closure = [] ∧ fd.code = .ref f.code ∧ fd.qualname = f.qual ∧ fd.globals = mainGlobals ∧ fd.builtins = builtinsNs ∧
    h₁.CodeRec fd.code fd.qualname ∧ ∀ vals : List Value, vals.length = f.args.args.length → bindArgs fd ⟨vals, []⟩ = pure ((f.args.args.map (·.arg)).zip vals)
  scope : okScope f.scope = true
  co : f.scope.isCoroutine = false
  gen : f.scope.isGenerator = false
  ne : f.addr ≠ 91
  nc : f.code ≠ 91
structure FnOk (h₁ : Heap) (mg : Str → Option Value) (x : Str) (f : Fn) : Prop extends FnObj h₁ f where
  at_ : mg x = some (.ref f.addr)
section
variable {prog : Program} {w : World} {h₁ : Heap} {T : Txt} {mg mb : Str → Option Value} {A : Around} {ρ ρ₁ : List Addr} {E : CE} {L L' : CL} {H H' : CH} {env : Env} {s : Shared} {c : CF} {hp₁ : Heap} {tk₁ : Nat} {X : List Addr} {it it' : CIt} {I : Addr} {h h' : Heap} {v : CV}
theorem bind_ok (f : Str × Value → PUnit → Sem (ForInStep PUnit)) (hf : ∀ n v u, f (n, v) u = (do storeName env n v; pure (.yield ⟨⟩))) {E' : Value → Shared → Prop} : ∀ (ps : List Str) {as : List CV} {vals : List Value} {L : CL} {H : CH} {s : Shared} {Q : PUnit → Shared → Prop},
    VRs ρ as vals → bindAll E (ps.zip as) L H = some (L', H') → SR h₁ T ρ H s.heap → ER ρ E env → LR ρ L env s.heap →
    (∀ h' tk, Stp [env.locals] ρ s.heap ρ h' → SR h₁ T ρ H' h' → LR ρ L' env h' → Q ⟨⟩ { s with heap := h', toks := tk }) → wpAny (model prog w) A (forIn (ps.zip vals) ⟨⟩ f) Q E' s
  | [], as, vals, L, H, s, Q, vs, e, S, R, l, q => by
    simp only [List.zip_nil_left] at e ⊢
    cases e
    rw [List.forIn_nil]
    exact wpAny_pure (q s.heap s.toks (Stp.refl ..) S l)
  | x :: ps, as, vals, L, H, s, Q, vs, e, S, R, l, q => by
    cases vs with
    | nil =>
      simp only [List.zip_nil_right] at e ⊢
      cases e
      rw [List.forIn_nil]
      exact wpAny_pure (q s.heap s.toks (Stp.refl ..) S l)
    | @cons cv a cs us vc vcs =>
      simp only [List.zip_cons_cons, bindAll] at e ⊢
      split at e
      · rename_i L1 H1 e1
        rw [List.forIn_cons, hf]
        refine wpAny_bind (wpAny_bind (fx_any (nm_store e1 S R l vc fun h1 t1 st1 S1 l1 => wpAny_pure ?_)))
        refine bind_ok f hf ps vcs e S1 (R.step st1 l.lt) l1 fun h2 t2 st2 S2 l2 => ?_
        exact q h2 t2 (st1.trans st2 fun _ m => .inl m) S2 l2
      · cases e
where
  fx_any {α : Type} {t : Sem α} {P : α → Shared → Prop} {E' : Value → Shared → Prop} {s : Shared} (h : wpAny (model prog w) A t P Fx s) : wpAny (model prog w) A t P E' s := wpAny_mono h (fun _ _ x => x) fun _ _ x => x.elim
/-- a new frame -/
theorem newEnv_call {scope : Scope} {cl : List (Str × Addr)} {ps : List Str} {as : List CV} {vals : List Value} {qual : Str} {func : Option Addr} {code : Value} {lv cd : Nat} {cs : List (Str × Nat)} {E' : Value → Shared → Prop} {Q : Env → Shared → Prop}
    (hsc : okScope scope = true) (S : SR h₁ T ρ H s.heap) (C : CR ρ cs cl) (vs : VRs ρ as vals) (hcd : cd ≠ 0 → code = .ref cd)
    (e : bindAll ⟨scope, (newCells scope.names cs H).1, lv, cd, qual⟩ (ps.zip as) [] (newCells scope.names cs H).2 = some (L', H'))
    (q : ∀ ρ' env h' tk, env.locals = s.heap.objs.size → Stp [] ρ s.heap ρ' h' → SR h₁ T ρ' H' h' → ER ρ' ⟨scope, (newCells scope.names cs H).1, lv, cd, qual⟩ env → LR ρ' L' env h' → Q env { s with heap := h', toks := tk }) :
    wpAny (model prog w) A (newFunctionEnv scope mainGlobals cl (ps.zip vals) qual func code none builtinsNs) Q E' s := by
  obtain ⟨k1, k2, k3, k4⟩ := okScope_split hsc
  simp only [newFunctionEnv, Option.isSome_none, Bool.false_eq_true, if_false]
  refine wpAny_bind (wpAny_alloc ?_)
  refine wpAny_bind (wpAny_layCells _ (fun name kind cells => by cases hkc : kind == NameKind.cell <;> simp [hkc]) _ _ _ _ ?_)
  have S3 := S.push { cls := .type "frame", data := .dict #[] }
  have st3 : Stp [] ρ s.heap ρ (s.heap.push { cls := .type "frame", data := .dict #[] }) := Stp.push ..
  have n3 := Heap.Ns.new s.heap (.type "frame")
  have sz3 : (s.heap.push { cls := .type "frame", data := .dict #[] }).objs.size = s.heap.objs.size + 1 := Heap.size_push ..
  dsimp only
  generalize hH3 : s.heap.push { cls := .type "frame", data := .dict #[] } = h3 at S3 st3 n3 sz3 ⊢
  obtain ⟨ρ4, st4, S4, C4⟩ := cells_ok scope.names S3 C
  have n4 : (pushCells h3 scope.names).Ns s.heap.objs.size fun _ => none := n3.keeps (pushCells_keeps _ _)
  have lC : s.heap.objs.size < h3.objs.size := by rw [sz3]; exact Nat.lt_succ_self _
  have nC : s.heap.objs.size ∉ ρ4 := fun m => by
    rcases st4.fresh _ m with m | m
    · exact absurd (S.lt m) (Nat.lt_irrefl _)
    · exact absurd lC (Nat.not_lt.mpr m)
  have R4 : ER ρ4 ⟨scope, (newCells scope.names cs H).1, lv, cd, qual⟩ { scope, locals := s.heap.objs.size, globals := mainGlobals, cells := cellsFrom h3.objs.size scope.names cl, qual, func, code, frame := some s.heap.objs.size, builtins := builtinsNs } :=
    ⟨rfl, k1, rfl, rfl, C4, nC, S.size, k2, k3, hcd, rfl⟩
  have l4 : LR ρ4 [] { scope, locals := s.heap.objs.size, globals := mainGlobals, cells := cellsFrom h3.objs.size scope.names cl, qual, func, code, frame := some s.heap.objs.size, builtins := builtinsNs } (pushCells h3 scope.names) := ⟨_, n4, fun x c z => by cases z⟩
  have st34 := st3.trans st4 fun _ m => nomatch m
  refine wpAny_bind (bind_ok (ρ := ρ4) _ (fun _ _ _ => rfl) ps (vs.mono st34.pre) e S4 R4 l4 fun h5 t5 st5 S5 l5 => wpAny_pure ?_)
  exact q ρ4 _ h5 t5 rfl (st34.trans st5 fun a m => .inr (List.mem_singleton.mp m ▸ Nat.le_refl _)) S5 (R4.step st5 l4.lt) l5
theorem SR.codeRec {x : Value} {q : Str} {k : Nat} (S : SR h₁ T ρ H s.heap) (c : h₁.CodeRec x q) (e : x = .ref k) (n : k ≠ 91) : s.heap.CodeRec x q := by
  obtain ⟨c, o, vs, t, e1, g, d, u⟩ := c
  subst e1
  cases e
  exact ⟨_, o, vs, t, rfl, S.low _ _ n g, d, u⟩
theorem OkA.deep {lv : Nat} (ok : OkA (lv + 1) A) (env : Env) : OkA lv (A.deeper env) := by
  refine ⟨ok.handled, ?_, ?_⟩
  · have := ok.depth; show A.depth + 1 + lv ≤ 500; (first | lia | omega)
  · have := ok.units; show A.units + 3 + 10 * lv ≤ 4000; (first | lia | omega)
/-- what a call of this function does -/
noncomputable def FnS (prog : Program) (w : World) (h₁ : Heap) (T : Txt) (f : Fn) (lv : Nat) (as : List CV) (H : CH) (v : CV) (H' : CH) : Prop := FnObj h₁ f → ∀ {A : Around} {ρ : List Addr} {vals : List Value} {s : Shared} {Q : Value → Shared → Prop}, OkA lv A → SR h₁ T ρ H s.heap → VRs ρ as vals →
  PostV h₁ T ρ H' s v Q → wpAny (model prog w) A (call (.ref f.addr) vals) Q Fx s
theorem call_body (B : Bs h₁ T mg mb) {f : Fn} {lv : Nat} {as : List CV} {L1 L2 : CL} {H1 : CH} (hlen : f.args.args.length = as.length)
    (eb : bindAll ⟨f.scope, (newCells f.scope.names [] H).1, lv, f.code, f.qual ++ ".<locals>."⟩ ((f.args.args.map (·.arg)).zip as) [] (newCells f.scope.names [] H).2 = some (L1, H1))
    (ex : ExsS prog w h₁ T ⟨f.scope, (newCells f.scope.names [] H).1, lv, f.code, f.qual ++ ".<locals>."⟩ f.body L1 H1 (.ret v) L2 H') : FnS prog w h₁ T f (lv + 1) as H v H' := by
  intro F A ρ vals s Q ok S vs p
  obtain ⟨o, fd, g, hd, h1, h2, h3, h4, h5, h6, h7, h8, h9⟩ := F.obj
  refine wpAny_call (codeAny_call_function (Nat.lt_of_le_of_lt (Nat.le_trans (Nat.le_add_right _ _) ok.depth) (by decide)) (S.low _ _ F.ne g) hd (by rw [h1]; exact F.co) (by rw [h1]; exact F.gen) h2 (S.codeRec h8 h4 F.nc) ?_)
  rw [h9 vals (by rw [vs.length]; exact hlen.symm), h1, h6, h3, h5, h4, h7]
  clear h1 h2 h3 h4 h5 h6 h7 h8 h9 hd g
  refine wpAny_pure (newEnv_call F.scope S (fun x n z => by cases z) vs (fun _ => rfl) eb fun ρ1 env h' tk hl st1 S1 R1 l1 => ⟨?_, codeAny_func ?_⟩)
  · obtain ⟨mc, n, q⟩ := B.lim
    exact ⟨mc, SR.ns (s := { s with heap := h', toks := tk }) S1 n (by decide), q⟩
  · refine wpAny_mono (ex (ok.deep env) S1 R1 l1 fun ρ2 x2 h2 t2 st2 S2 l2 f2 => ?_) (fun _ _ q => q) fun _ _ q => q.elim
    obtain ⟨y, rfl, vy⟩ := f2
    exact p ρ2 y h2 t2 (st1.trans st2 fun a m => .inr (List.mem_singleton.mp m ▸ Nat.le_of_eq hl.symm)) S2 vy
/-- the heap of a call that takes no object -/
theorem SR.local_ (S : SR h₁ T ρ H h) (hc : codeAt H 0 = none) : SR h₁ T [109] [.any] h := by
  refine ⟨rfl, by simp, rfl, fun n a e z => ?_, fun n o a e f => ?_, S.low, ?_, S.size, S.base⟩
  · cases n with
    | zero => exact absurd rfl z
    | succ n => cases e
  · cases n with
    | zero => cases e; cases f; exact S.there (List.mem_of_getElem? S.zero)
    | succ n => cases e
  · have t := S.tab
    unfold TabOk at t ⊢
    rw [hc] at t
    exact t
theorem SR.back {ρ' : List Addr} (S : SR h₁ T ρ H h) (hc : codeAt H 0 = none) (S' : SR h₁ T ρ' H' h') (hc' : codeAt H' 0 = none) (st : Stp [] [109] h ρ' h') : SR h₁ T ρ H h' ∧ Stp [] ρ h ρ h' := by
  have kp : ∀ a o, h.get? a = some o → h'.get? a = some o := by
    intro a o g
    by_cases h91 : a = 91
    · subst h91
      have t := S.tab
      have t' := S'.tab
      unfold TabOk at t t'
      rw [hc] at t
      rw [hc'] at t'
      rw [t'] 
      rw [← t]; exact g
    · by_cases h109 : a = 109
      · subst h109
        obtain ⟨o1, g1⟩ := S.base.2
        have e1 := S.low 109 o1 h91 g1
        rw [g] at e1
        cases e1
        exact S'.low 109 o h91 g1
      · exact st.keep a o g (fun m => h109 (List.mem_singleton.mp m)) h91 (fun m => nomatch m)
  exact ⟨S.keeps (fun a o g _ => kp a o g) st.size, Stp.ext (fun a o g _ => kp a o g) st.size⟩
theorem plain_vr {c : CV} {x : Value} (hp : isPlain c = true) (v : VR ρ c x) : VR ρ₁ c x := by cases c <;> first | exact v | cases hp
theorem plain_vrs {as : List CV} {vals : List Value} (v : VRs ρ as vals) (hp : as.all isPlain = true) : VRs ρ₁ as vals := by
  induction v with
  | nil => exact .nil
  | cons h _ ih =>
    rw [List.all_cons, Bool.and_eq_true] at hp
    exact .cons (plain_vr hp.1 h) (ih hp.2)
/-- a call with no object among its operands: run in a heap of its own -/
theorem call_loc {f : Fn} {lv : Nat} {as : List CV} {H2 : CH} (hp : as.all isPlain = true) (hc : codeAt H 0 = none) (e : FnS prog w h₁ T f lv as [.any] v H2) (hq1 : codeAt H2 0 = none) (hq2 : isPlain v = true) : FnS prog w h₁ T f lv as H v H := by
  intro F A ρ vals s Q ok S vs p
  refine e F ok (S.local_ hc) (plain_vrs vs hp) fun ρ2 x2 h2 t2 st2 S2 v2 => ?_
  obtain ⟨S3, st3⟩ := S.back hc S2 hq1 st2
  exact p ρ x2 h2 t2 st3 S3 (plain_vr hq2 v2)
end
end Mine
end

section
set_option maxRecDepth 100000
set_option linter.unusedVariables false
set_option linter.unusedSectionVars false
set_option autoImplicit false
namespace Mine
open PySem PySem.W PyProof.Rows PySem.SeqAt
noncomputable def allPlain (es : List Expr) : Prop := ∀ e ∈ es, notStar e = true
/-- what a call by this value does with its operands -/
noncomputable def Callable (prog : Program) (w : World) (h₁ : Heap) (T : Txt) (fv : Value) : Prop := ∀ {A : Around} {env : Env} {pos : Pos} {e : Expr} {es : List Expr} {s : Shared} {Q : Value → Shared → Prop}, allPlain (e :: es) →
  wpAny (model prog w) A (spliced (backTo pos (starEach (e :: es) env))) (fun vs s₁ => (∃ ρ H, SR h₁ T ρ H s₁.heap) ∧ wpAny (model prog w) A (call fv vs) Q Fx s₁) Fx s → wpAny (model prog w) A (callWith pos fv [] (backTo pos (starEach (e :: es) env)) []) Q Fx s
section
variable {prog : Program} {w : World} {h₁ : Heap} {T : Txt} {mg mb : Str → Option Value} {A : Around} {ρ ρ₁ : List Addr} {E : CE} {L L' : CL} {H H' : CH} {env : Env} {s : Shared} {c : CF} {hp₁ : Heap} {tk₁ : Nat} {X : List Addr} {it it' : CIt} {I : Addr} {h h' : Heap} {v : CV}
theorem plain_any {pos : Pos} : ∀ {es : List Expr}, allPlain es → (backTo pos (starEach es env)).any (·.1) = false
  | [], _ => rfl
  | e :: es, p => by
    rw [star_cons (p e (.head _))]
    show (false || (backTo pos (starEach es env)).any (·.1)) = false
    rw [plain_any fun x m => p x (.tail _ m)]; rfl
theorem evList_plain {es : List Expr} {H : CH} {vs : List CV} (h : EsS prog w h₁ T E L es H vs H') : allPlain es := by
  induction h with
  | nil => exact fun x m => nomatch m
  | cons hn _ _ ih => exact fun x m => (List.mem_cons.mp m).elim (fun z => z ▸ hn) (ih x)
theorem callable_builtin (id : String) : Callable prog w h₁ T (.builtin id) := by
  intro A env pos e es s Q p h
  exact callWith_builtin1 (wpAny_mono h (fun vs s₁ q => q.2) fun _ _ x => x) (star_cons (p e (.head _))) (plain_any fun x m => p x (.tail _ m))
theorem callable_type (id : String) : Callable prog w h₁ T (.type id) := by
  intro A env pos e es s Q p h
  refine PySem.callWith_type (plain_any p) ?_
  rw [star_cons (p e (.head _))] at h ⊢
  exact Calls.evalArgs_plain (wpAny_mono h (fun vs s₁ q => q.2) fun _ _ x => x)
theorem callable_func {a : Addr} {o : Obj} {fd : FuncData} (g : h₁.get? a = some o) (hd : o.data = .func fd) (n : a ≠ 91) : Callable prog w h₁ T (.ref a) := by
  intro A env pos e es s Q p h
  exact PyProof.Rows.callWith_def hd (wpAny_mono h (fun vs s₁ q => ⟨let ⟨_, _, S⟩ := q.1; S.low _ _ n g, q.2⟩) fun _ _ x => x) (star_cons (p e (.head _)))
/-- h₁ but for the table -/
theorem base_out : ∃ h₀ : Heap, (∀ b o, b ≠ 91 → h₁.get? b = some o → h₀.get? b = some o) ∧ ∀ b o, h₀.get? b = some o → b ≠ 91 ∧ h₁.get? b = some o := by
  refine ⟨h₁.update 91 (fun o => { o with data := .freed }), fun b o n g => ((Heap.SameBut.update _ 91 _).2 b n).trans g, fun b o g => ?_⟩
  by_cases hb : b = 91
  · subst hb
    exfalso
    simp only [Heap.get?, Heap.update] at g
    rw [Array.getElem?_modify] at g
    simp only [if_true] at g
    cases hx : h₁.objs[91]? with
    | none => rw [hx] at g; cases g
    | some z => rw [hx] at g; cases g
  · exact ⟨hb, ((Heap.SameBut.update _ 91 _).2 b hb).symm.trans g⟩
theorem callable_cls {C N : Addr} {mN : Str → Option Value} (X : ClsAt h₁ C N mN) (n : C ≠ 91) (n' : N ≠ 91) : Callable prog w h₁ T (.ref C) := by
  intro A env pos e es s Q p h
  obtain ⟨h₀, u, d⟩ := base_out (h₁ := h₁)
  have X0 : ClsAt h₀ C N mN := by
    obtain ⟨nm, q, bs, sn, sub, col, dd, k0, k1, k2, k3, k5, g⟩ := X.obj
    exact ⟨⟨nm, q, bs, sn, sub, col, dd, k0, k1, k2, k3, k5, u _ _ n g⟩, X.ns.at fun o g => u _ _ n' g⟩
  exact callWith_cls X0 (wpAny_mono h (fun vs s₁ q => ⟨fun b o g => let ⟨_, _, S⟩ := q.1; S.low b o (d b o g).1 (d b o g).2, q.2⟩) fun _ _ x => x) (star_cons (p e (.head _))) (plain_any fun x m => p x (.tail _ m))
/-- what a built-in (or a function taken whole) answers -/
noncomputable def BiOK (prog : Program) (w : World) (h₁ : Heap) (T : Txt) (b : BN) (fv : Value) : Prop := ∀ {A : Around} {as : List CV} {vals : List Value} {H H' : CH} {v : CV} {ρ : List Addr} {s : Shared} {Q : Value → Shared → Prop}, BiS b as H v H' →
  A.handled = none → A.depth ≤ 500 → A.units ≤ 4000 → SR h₁ T ρ H s.heap → VRs ρ as vals → PostV h₁ T ρ H' s v Q → wpAny (model prog w) A (call fv vals) Q Fx s
structure Bs2 (prog : Program) (w : World) (h₁ : Heap) (T : Txt) (mg mb : Str → Option Value) : Prop extends Bs h₁ T mg mb where
  fns : ∀ x f, T.fns.lookup x = some f → FnOk h₁ mg x f
  bis : ∀ x b, T.fns.lookup x = none → builtins.lookup x = some b → ∃ fv, (mg x = some fv ∨ (mg x = none ∧ mb x = some fv)) ∧ Callable prog w h₁ T fv ∧ BiOK prog w h₁ T b fv
theorem ld_glob (B : Bs h₁ T mg mb) {x : Str} {pos : Pos} {fv : Value} (S : SR h₁ T ρ H s.heap) (R : ER ρ E env) (hk : kindIn E x = some .globalImplicit) (e : mg x = some fv ∨ (mg x = none ∧ mb x = some fv)) {Q : Value → Shared → Prop} (q : Q fv s) :
    wpAny (model prog w) A (eval (.Name x pos) env) Q Fx s := by
  refine Calls.Name_function_global R.fn ((R.kindOf x).trans hk) ?_ (R.ne hk R.nodbg)
  unfold loadGlobal
  rw [R.glob]
  refine wpAny_bind (wpAny_nsGet (S.ns B.g (by decide)) ?_)
  rcases e with e | ⟨e, e'⟩
  · rw [e]; exact wpAny_pure q
  · rw [e, R.bi]
    refine wpAny_bind (wpAny_nsGet (S.ns B.b (by decide)) ?_)
    rw [e']; exact wpAny_pure q
theorem args_cons {as : List Expr} (h : as.isEmpty = false) : ∃ a es, as = a :: es := by cases as <;> first | exact ⟨_, _, rfl⟩ | cases h
variable {f : Str} {fp pos : Pos} {as : List Expr} {vs : List CV} {H1 : CH}
theorem ev_CallFn (B : Bs2 prog w h₁ T mg mb) {g : Fn} (hne : as.isEmpty = false) (hk : kindIn E f = some .globalImplicit) (e1 : EsS prog w h₁ T E L as H vs H1) (hg : T.fns.lookup f = some g) (e : FnS prog w h₁ T g E.lv vs H1 v H') : EvS prog w h₁ T E L (.Call (.Name f fp) as [] pos) H v H' := fun ok S R l Q p => by
  obtain ⟨a, es, rfl⟩ := args_cons hne
  have F := B.fns f g hg
  obtain ⟨o, fd, go, hd, _⟩ := F.obj
  exact PyProof.Rows.Call_ (ld_glob B.toBs S R hk (.inl F.at_) (callable_func go hd F.ne (T := T) (evList_plain e1)
    (evs_ok ok e1 S R l fun ρ1 _ _ _ st1 S1 v1 => ⟨⟨ρ1, H1, S1⟩, e F.toFnObj ok S1 v1 (p.after st1)⟩)))
theorem ev_CallBi (B : Bs2 prog w h₁ T mg mb) {b : BN} (hne : as.isEmpty = false) (hk : kindIn E f = some .globalImplicit) (e1 : EsS prog w h₁ T E L as H vs H1) (hg : T.fns.lookup f = none) (hb : builtins.lookup f = some b) (e : BiS b vs H1 v H') : EvS prog w h₁ T E L (.Call (.Name f fp) as [] pos) H v H' := fun ok S R l Q p => by
  obtain ⟨a, es, rfl⟩ := args_cons hne
  obtain ⟨fv, hf, hc, hbi⟩ := B.bis f b hg hb
  exact PyProof.Rows.Call_ (ld_glob B.toBs S R hk hf (hc (evList_plain e1)
    (evs_ok ok e1 S R l fun ρ1 _ _ _ st1 S1 v1 => ⟨⟨ρ1, H1, S1⟩, hbi e ok.handled (Nat.le_trans (Nat.le_add_right _ _) ok.depth) (Nat.le_trans (Nat.le_add_right _ _) ok.units) S1 v1 (p.after st1)⟩)))
end
end Mine
end

section
set_option maxRecDepth 100000
set_option linter.unusedVariables false
set_option linter.unusedSectionVars false
set_option autoImplicit false
namespace Mine
open PySem PySem.W PyProof.Rows PySem.SeqAt
/-- what making the lambda leans on -/
structure LamBase (h₁ : Heap) (mg : Str → Option Value) : Prop where
  hd : CodeHd h₁ 95 91
  bi : h₁.BuiltinsAt mg 91
section
variable {prog : Program} {w : World} {h₁ : Heap} {T : Txt} {mg mb : Str → Option Value} {A : Around} {ρ ρ₁ : List Addr} {E : CE} {L L' : CL} {H H' : CH} {env : Env} {s : Shared} {c : CF} {hp₁ : Heap} {tk₁ : Nat} {X : List Addr} {it it' : CIt} {I : Addr} {h h' : Heap} {v : CV}
theorem codeAt_new : ∀ {H : CH} {i : Nat}, codeAt H i = none → codeAt (H ++ [.code]) i = some (i + H.length)
  | [], i, _ => rfl
  | o :: H, i, e => by
    cases o <;> first | (simp only [codeAt] at e; cases e) | (simp only [codeAt, List.cons_append] at e ⊢; rw [codeAt_new e]; simp; (first | lia | omega))
theorem SR.addCode (S : SR h₁ T ρ H h) (hc : codeAt H 0 = none) {c' : Addr} (k : Heap.ExtBut 91 h h') (hz : h.objs.size ≤ c') (hlt : c' < h'.objs.size) (hsz : h.objs.size ≤ h'.objs.size) (rc : h'.CodeRec (.ref c') ("_law_first.<locals>.<lambda>" : Str))
    (tb : h'.get? 91 = some (tabObj #[rawInt 104, rawInt 29, .ref c'])) : SR h₁ T (ρ ++ [c']) (H ++ [.code]) h' := by
  have pre : ρ <+: ρ ++ [c'] := List.prefix_append _ _
  have nin : c' ∉ ρ := fun m => absurd (S.lt m) (Nat.not_lt.mpr hz)
  have atNew : (ρ ++ [c'])[H.length]? = some c' := S.at_new _
  have hpos : 0 < ρ.length := (List.getElem?_eq_some_iff.mp S.zero).1
  refine ⟨by rw [List.length_append, List.length_append, S.len]; rfl, ?_, pre_get pre S.zero, fun n a e z => snoc_inv e (fun _ e => S.high n a e z) fun _ e => e ▸ Nat.le_trans S.size hz,
    fun n o a e f => snoc_inv e (fun hn e => snoc_inv f (fun _ f => ((S.obj n o a e f).at fun ob q => k a ob (fun z => S.no91 (z ▸ List.mem_of_getElem? f)) q).mono pre) fun hm _ => absurd (hm.trans S.len) (Nat.ne_of_lt hn)) fun hn e => snoc_inv f (fun hm _ => absurd (hn.trans S.len.symm) (Nat.ne_of_lt hm)) fun _ f => ?_,
    fun a o n g => k a o n (S.low a o n g), ?_, Nat.le_trans S.size hsz, S.base⟩
  · rw [List.nodup_append]
    exact ⟨S.nd, List.pairwise_singleton .., fun a m b m' => by rw [List.mem_singleton.mp m']; exact fun z => nin (z ▸ m)⟩
  · subst e f
    obtain ⟨c₂, o, vs, t, e2, g, d, u⟩ := rc
    cases e2
    exact ⟨o, vs, t, g, d, u⟩
  · unfold TabOk
    rw [codeAt_new hc]
    simp only [Nat.zero_add]
    exact ⟨c', atNew, tb⟩
theorem lam_bind {name qual : Str} {params : Arguments} {body : Expr} {scope : Scope} {cl : List (Str × Addr)} {pm cdv ct : Value} {x : Str} (e : LamPar params x) (vals : List Value) (h : vals.length = 1) :
    bindArgs (kla_fn name qual params body scope cl pm cdv ct) ⟨vals, []⟩ = pure ([x].zip vals) := by
  obtain ⟨v, rfl⟩ := List.length_eq_one_iff.mp h
  obtain ⟨rfl, n, q, rfl⟩ := e
  rfl
theorem lam_defaults {params : Arguments} {x : Str} (e : LamPar params x) (env : Env) : defaultsOf params env = ([], []) := by
  obtain ⟨rfl, n, q, rfl⟩ := e
  rfl
/-- what the text's one lambda keeps to -/
structure LamOk (E : CE) (args : Arguments) (scope : Scope) (pos : Pos) (x : Str) (cs : List (Str × Nat)) : Prop where
  code : E.code = 95
  qual : E.qual = ("_law_first.<locals>." : Str)
  line : pos.line = 104
  col : pos.col = 29
  sc : okScope scope = true
  gen : scope.isGenerator = false
  co : scope.isCoroutine = false
  par : LamPar args x
  cl : closureOf scope E.cells scope.names [] = some cs
theorem ev_Lambda (B : Bs h₁ T mg mb) (LB : LamBase h₁ mg) {args : Arguments} {body : Expr} {scope : Scope} {pos : Pos} {x : Str} {cs : List (Str × Nat)} (K : LamOk E args scope pos x cs)
    (hv : (∃ k, codeAt H 0 = some k ∧ v = .loc H.length ∧ H' = H ++ [.clo k cs [x] body scope]) ∨ (codeAt H 0 = none ∧ v = .loc (H.length + 1) ∧ H' = H ++ [.code, .clo H.length cs [x] body scope])) : EvS prog w h₁ T E L (.Lambda args body scope pos) H v H' := by
  intro A ρ env s ok S R l Q p
  obtain ⟨hcode, hqual, hline, hcol, hsc, hgen, hco, hx, hcs⟩ := K
  obtain ⟨cl, hclos, C⟩ := closure_ok R hcs
  have hq : env.qual ++ ("<lambda>" : Str) = ("_law_first.<locals>.<lambda>" : Str) := by rw [R.qual, hqual]; decide +kernel
  refine kla_eval (lam_defaults hx env) ?_
  rw [hq]
  have hcd : env.code = .ref 95 := by rw [R.code (by rw [hcode]; decide), hcode]
  have CH' : CodeHd s.heap 95 91 := by
    obtain ⟨o, vs, file, tf, flags, tg, inF, text, tt, g, q⟩ := LB.hd
    exact ⟨o, vs, file, tf, flags, tg, inF, text, tt, S.low _ _ (by decide) g, q⟩
  have BA : s.heap.BuiltinsAt mg 91 := by
    obtain ⟨bm, ob, b1, b2, b3, b4, b5, b6⟩ := LB.bi
    exact ⟨bm, ob, b1, b2, b3, b4, S.low _ _ b4 b5, b6⟩
  have hg := S.ns B.g (by decide)
  have tab := S.tab
  unfold TabOk at tab
  clear hcs hqual hcode
  rcases hv with ⟨k, hk, rfl, rfl⟩ | ⟨hk, rfl, rfl⟩
  · rw [hk] at tab
    obtain ⟨c', ec, tab⟩ := tab
    refine kla_makeFunctionHit (c := 95) (P := 91) (cv := .ref c') hclos R.glob hg hcd CH' tab (by simp [TriplesOk, rawInt]) (by simp [codeAmong, rawInt, hline, hcol]) BA fun ctv h2 tk kp sz => ?_
    have S2 := S.keeps (h' := h2) (fun a o g _ => kp a o g) sz
    have st2 : Stp [] ρ s.heap ρ h2 := Stp.ext (fun a o g _ => kp a o g) sz
    refine (p.after (tk₁ := tk) st2).newly S2 (fun z => nomatch z) ⟨c', _, pre_get (List.prefix_append _ _) ec, Heap.get?_push_size _ rfl, ⟨rfl, fun vals hv => lam_bind hx vals hv, rfl, rfl, rfl, rfl, rfl, hsc, hco, hgen⟩, fun y n z => ?_⟩ tk
    obtain ⟨a, u, q⟩ := C y n z
    exact ⟨a, u, pre_get (List.prefix_append _ _) q⟩
  · rw [hk] at tab
    refine wpAny_grow (kla_makeFunction (c := 95) (P := 91) (ps := #[]) hclos R.glob hg hcd CH' tab (by simp [TriplesOk]) (by simp [codeAmong]) (by decide) BA fun c' ctv h2 tk kp hz hlt rc tb gz => ?_)
    dsimp only at gz
    have sz : s.heap.objs.size ≤ h2.objs.size := Nat.le_of_lt (Nat.lt_of_le_of_lt hz hlt)
    rw [hline, hcol] at tb
    have S2 := S.addCode hk kp hz hlt sz rc tb
    have st2 : Stp [] ρ s.heap (ρ ++ [c']) h2 := by
      refine ⟨List.prefix_append _ _, fun a m => ?_, sz, fun a o g _ n _ => kp a o n g⟩
      rcases List.mem_append.mp m with m | m
      · exact .inl m
      · rw [List.mem_singleton.mp m]; exact .inr hz
    have hl : (H ++ [CO.code]).length = H.length + 1 := List.length_append
    have p2 := p.after (tk₁ := tk) st2
    rw [show H ++ [CO.code, CO.clo H.length cs [x] body scope] = (H ++ [CO.code]) ++ [CO.clo H.length cs [x] body scope] from (List.append_assoc H [CO.code] [CO.clo H.length cs [x] body scope]).symm, ← hl] at p2
    refine p2.newly S2 (fun z => nomatch z) ⟨c', _, pre_get (List.prefix_append _ _) (S.at_new c'), Heap.get?_push_size _ rfl, ⟨rfl, fun vals hv => lam_bind hx vals hv, rfl, rfl, rfl, rfl, rfl, hsc, hco, hgen⟩, fun y n z => ?_⟩ tk
    obtain ⟨a, u, q⟩ := C y n z
    exact ⟨a, u, pre_get (List.prefix_append _ _) (pre_get (List.prefix_append _ _) q)⟩
theorem call_lam (B : Bs h₁ T mg mb) {lv n k : Nat} {cells : List (Str × Nat)} {ps : List Str} {body : Expr} {sc : Scope} {a : Addr} {as : List CV} {vals : List Value} {L1 : CL} {H1 : CH} {Q : Value → Shared → Prop} (ok : OkA (lv + 1) A) (S : SR h₁ T ρ H s.heap) (vs : VRs ρ as vals)
    (hn : H[n]? = some (.clo k cells ps body sc)) (hk : H[k]? = some .code) (ha : ρ[n]? = some a) (hlen : ps.length = as.length) (eb : bindAll ⟨sc, (newCells sc.names cells H).1, lv, 0, "_law_first.<locals>.<lambda>.<locals>."⟩ (ps.zip as) [] (newCells sc.names cells H).2 = some (L1, H1))
    (ev : EvS prog w h₁ T ⟨sc, (newCells sc.names cells H).1, lv, 0, "_law_first.<locals>.<lambda>.<locals>."⟩ L1 body H1 v H') (p : PostV h₁ T ρ H' s v Q) : wpAny (model prog w) A (call (.ref a) vals) Q Fx s := by
  obtain ⟨c', fd, ec, g, F, C⟩ := S.obj _ _ a hn ha
  obtain ⟨oc, vs', t, gc, dc, uc⟩ := S.obj _ _ c' hk ec
  refine wpAny_call (kla_callFunE (Nat.lt_of_le_of_lt (Nat.le_trans (Nat.le_add_right _ _) ok.depth) (by decide)) g rfl (by rw [F.scope]; exact F.co) (by rw [F.scope]; exact F.gen) F.body ⟨c', oc, vs', t, F.code, gc, dc, by rw [F.qual]; exact uc⟩ ?_)
  rw [F.params vals (by rw [vs.length]; exact hlen.symm), F.scope, F.glob, F.code, F.bi, F.qual]
  have hq : (("_law_first.<locals>.<lambda>" : Str) ++ (".<locals>." : Str)) = ("_law_first.<locals>.<lambda>.<locals>." : Str) := by decide +kernel
  rw [hq]
  clear gc dc uc g
  refine wpAny_pure (newEnv_call F.ok S C vs (cd := 0) (fun z => absurd rfl z) eb fun ρ1 env h' tk hl st1 S1 R1 l1 => ⟨?_, kla_codeExpr ?_⟩)
  · obtain ⟨mc, n, q⟩ := B.lim
    exact ⟨mc, SR.ns (s := { s with heap := h', toks := tk }) S1 n (by decide), q⟩
  · exact wpAny_mono (ev (ok.deep env) S1 R1 l1 fun ρ2 x2 h2 t2 st2 S2 v2 => p ρ2 x2 h2 t2 (st1.trans st2 fun _ m => nomatch m) S2 v2) (fun _ _ q => q) fun _ _ q => q.elim
end
end Mine
end

section
set_option maxRecDepth 100000
set_option linter.unusedVariables false
set_option autoImplicit false
namespace Mine
open PySem PySem.W PyProof.Rows
theorem tup_index {prog : Program} {w : World} {A : Around} {s : Shared} {l : Addr} {n : Nat} {a b c i : Int} {t1 t2 t3 u : Tok} {E : Value → Shared → Prop} {Q : Value → Shared → Prop} {j : Nat}
   (hl : s.heap.get? l = some ⟨.type "tuple", none, .seq #[.int a t1, .int b t2, .int c t3] n, #[]⟩) (hj : (a = i ∧ j = 0) ∨ (a ≠ i ∧ b = i ∧ j = 1) ∨ (a ≠ i ∧ b ≠ i ∧ c = i ∧ j = 2))
   (hQ : Q (.int j s.toks) { s with toks := s.toks + 1 }) :
   wpAny (model prog w) A (call (.builtin "tuple.index") [.ref l, .int i u]) Q E s := by
  have hT : s.TypeIs (.ref l) "tuple" := ⟨_, hl, rfl⟩
  refine wpAny_call_entry F.slot_tuple_index hT F.entry_tuple_index ?_ (F.args_tuple_index_2 _ _)
  show wpAny _ _ (Builtin.Tuple.tupleItemsOf (.ref l) >>= _) _ _ s
  refine wpAny_bind (wpAny_tupleItemsOf hl rfl ?_)
  show wpAny _ _ ((forIn (m := Sem) [0:min 3 3] _ _) >>= _) _ _ _
  rw [Std.Legacy.Range.forIn_eq_forIn_range']
  simp only [Std.Legacy.Range.size]
  show wpAny _ _ ((forIn (m := Sem) [0, 1, 2] _ _) >>= _) _ _ _
  simp only [List.forIn_cons, List.forIn_nil]
  refine wpAny_bind (wpAny_bind ?_)
  show wpAny _ _ (eqBool (.int a t1) (.int i u) >>= _) _ _ _
  refine wpAny_bind (wpAny_eqBool_int ?_)
  obtain ⟨rfl, rfl⟩ | ⟨ha, hj⟩ | ⟨ha, hj⟩ := hj
  · rw [beq_self_eq_true]
    exact wpAny_bind (wpAny_bind (wpAny_mkInt (wpAny_pure (wpAny_pure (wpAny_pure (wpAny_pure ⟨_, rfl, hQ⟩))))))
  all_goals
    rw [beq_eq_false_iff_ne.mpr ha]
    simp only [Bool.false_eq_true, if_false]
    refine wpAny_pure (wpAny_bind ?_)
    show wpAny _ _ (eqBool (.int b t2) (.int i u) >>= _) _ _ _
    refine wpAny_bind (wpAny_eqBool_int ?_)
  · obtain ⟨rfl, rfl⟩ := hj
    rw [beq_self_eq_true]
    exact wpAny_bind (wpAny_bind (wpAny_mkInt (wpAny_pure (wpAny_pure (wpAny_pure (wpAny_pure ⟨_, rfl, hQ⟩))))))
  obtain ⟨hb, rfl, rfl⟩ := hj
  rw [beq_eq_false_iff_ne.mpr hb]
  simp only [Bool.false_eq_true, if_false]
  refine wpAny_pure (wpAny_bind ?_)
  show wpAny _ _ (eqBool (.int c t3) (.int c u) >>= _) _ _ _
  refine wpAny_bind (wpAny_eqBool_int ?_)
  rw [beq_self_eq_true]
  exact wpAny_bind (wpAny_bind (wpAny_mkInt (wpAny_pure (wpAny_pure (wpAny_pure (wpAny_pure ⟨_, rfl, hQ⟩))))))
end Mine
end

section
set_option maxRecDepth 100000
set_option linter.unusedVariables false
set_option linter.unusedSectionVars false
set_option autoImplicit false
namespace Mine
open PySem PySem.W PyProof.Rows PySem.SeqAt
section
variable {prog : Program} {w : World} {h₁ : Heap} {T : Txt} {mg mb : Str → Option Value} {A : Around} {ρ ρ₁ : List Addr} {E : CE} {L L' : CL} {H H' : CH} {env : Env} {s : Shared} {c : CF} {hp₁ : Heap} {tk₁ : Nat} {X : List Addr} {it it' : CIt} {I : Addr} {h h' : Heap} {v : CV}
theorem base_plain {o : Expr} (hb : plainBase o = true) (f : Str) : attributeBase o f env (eval o env) = eval o env := by cases o <;> first | rfl | cases hb
theorem ints_items {ρ : List Addr} : ∀ {l : List Int} {vs : List Value}, VRs ρ (intL l) vs → ∃ ys : List (Int × Tok), vs = ys.map (fun p => Value.int p.1 p.2) ∧ ys.map (·.1) = l
  | [], _, .nil => ⟨[], rfl, rfl⟩
  | a :: l, _, .cons ⟨t, e⟩ r => by
    obtain ⟨ys, rfl, rfl⟩ := ints_items r
    subst e
    exact ⟨(a, t) :: ys, rfl, rfl⟩
theorem plain_few {as : List Expr} {pos : Pos} (hp : allPlain as) (hl : as.length ≤ 10) : ((backTo pos (starEach as env)).all (fun x => !x.1) && (backToKw pos (keywordEach [] env)).all (fun x => x.1.isSome)
      && decide (as.length + ([] : List Keyword).length + (if ([] : List Keyword).isEmpty then 0 else 1) < 30)) = true := by
  have h1 : (backTo pos (starEach as env)).all (fun x => !x.1) = true := by
    have := plain_any (pos := pos) (env := env) hp
    rw [List.any_eq_false] at this
    rw [List.all_eq_true]
    intro x m
    have := this x m
    simpa using this
  rw [h1]
  show (true && true && decide (as.length + 0 + 0 < 30)) = true
  simp
  (first | lia | omega)
theorem low_of {x y : Str} (e : strLower x = some y) : PySem.Txt.lower x = y ∧ Builtin.Str.tooLong (PySem.Txt.lower x).length = false := by
  unfold strLower at e
  split at e
  · rename_i c
    split at e
    · rename_i hc
      cases e
      rcases hc with rfl | rfl <;> decide +kernel
    · split at e
      · rename_i hc
        cases e
        rcases hc with rfl | rfl <;> decide +kernel
      · cases e
  · cases e
variable {Hm H1 : CH} {u x : CV} {o a : Expr} {apos pos : Pos} {Q : Value → Shared → Prop} {n : Nat} {xs xs0 : List CV}
/-- a method with one operand -/
theorem meth1 (ok : OkA E.lv A) (S : SR h₁ T ρ H s.heap) (R : ER ρ E env) (l : LR ρ L env s.heap) (hb : plainBase o = true) (hli : apos.endLine = pos.line) {f : Str} (hn : notStar a = true) (e1 : EvS prog w h₁ T E L o H v Hm) (e3 : EvS prog w h₁ T E L a Hm x H1)
    (k : ∀ ρ1 y h1 t1, Stp [] ρ s.heap ρ1 h1 → SR h₁ T ρ1 Hm h1 → VR ρ1 v y →
      (∀ (Q' : Value → Shared → Prop), (∀ ρ2 z h2 t2, Stp [] ρ1 h1 ρ2 h2 → SR h₁ T ρ2 H1 h2 → VR ρ2 x z → Q' z { s with heap := h2, toks := t2 }) → wpAny (model prog w) A (eval a env) Q' Fx { s with heap := h1, toks := t1 }) →
      MethodOn prog w A f pos y [(false, eval a env)] Q Fx { s with heap := h1, toks := t1 }) :
    wpAny (model prog w) A (eval (.Call (.Attribute o f apos) [a] [] pos) env) Q Fx s := by
  refine wpAny_Call_method_late (trees := [(false, eval a env)]) (base_plain hb f) (by rw [star_cons hn]; rfl) (by simp [hli]) (by rw [star_cons hn]; rfl) (e1 ok S R l fun ρ1 y h1 t1 st1 S1 v1 => ?_)
  exact k ρ1 y h1 t1 st1 S1 v1 fun Q' q => e3 ok S1 (R.step st1 l.lt) (l.ev R st1) fun ρ2 z h2 t2 st2 S2 v2 => q ρ2 z h2 t2 st2 S2 v2
section
variable (hb : plainBase o = true) (hli : apos.endLine = pos.line) (hs : notStar a = true) (e1 : EvS prog w h₁ T E L o H (.loc n) Hm)
include hb hli hs e1
theorem m_append (e2 : EvS prog w h₁ T E L a Hm x H1) (hn0 : Hm[n]? = some (.list xs0)) (hn : H1[n]? = some (.list xs)) (h0 : n ≠ 0) (hz : xs.length ≤ 1000) : EvS prog w h₁ T E L (.Call (.Attribute o ("append" : Str) apos) [a] [] pos) H .none (H1.set n (.list (xs ++ [x]))) := by
  intro A ρ env s ok S R l Q p
  refine meth1 ok S R l hb hli hs e1 e2 fun ρ1 y h1 t1 st1 S1 v1 hev => ?_
  have p := p.after (tk₁ := t1) st1
  clear e1 e2 S R l st1
  obtain ⟨b, eb, rfl⟩ := v1
  obtain ⟨us, k, gu, ru⟩ := S1.obj _ _ b hn0 eb
  refine ⟨"list", "list.append", F.plainAttrs_list, F.slot_list_append, F.type_list_append, ⟨_, gu, rfl⟩, fun a ea => by cases ea; exact ⟨_, gu, rfl⟩, P.append_list (hev _ fun ρ2 z h2 t2 st2 S2 v2 => ?_)⟩
  have eb2 := pre_get st2.pre eb
  obtain ⟨us2, k2, gu2, ru2⟩ := S2.obj _ _ b hn eb2
  exact ⟨_, _, by rw [ru2.isList]; exact Nat.le_trans hz (by decide), gu2, (p.after (tk₁ := t2) st2) ρ2 _ _ t2 (Stp.put _ (List.mem_of_getElem? eb2)) (S2.list_put (ys := xs ++ [x]) (us := us2 ++ [z]) hn eb2 h0 gu2 (by simp) (ru2.append (.cons v2 .nil))) rfl⟩
theorem m_extend {m : Nat} {ys : List CV} (e2 : EvS prog w h₁ T E L a Hm (.loc m) H1) (hn0 : Hm[n]? = some (.list xs0)) (hn : H1[n]? = some (.list xs)) (hy : H1[m]? = some (.list ys)) (h0 : n ≠ 0) (hz : xs.length ≤ 1000 ∧ ys.length ≤ 1000) : EvS prog w h₁ T E L (.Call (.Attribute o ("extend" : Str) apos) [a] [] pos) H .none (H1.set n (.list (xs ++ ys))) := by
  intro A ρ env s ok S R l Q p
  refine meth1 ok S R l hb hli hs e1 e2 fun ρ1 y h1 t1 st1 S1 v1 hev => ?_
  have p := p.after (tk₁ := t1) st1
  clear e1 e2 S R l st1
  obtain ⟨b, eb, rfl⟩ := v1
  obtain ⟨us, k, gu, ru⟩ := S1.obj _ _ b hn0 eb
  refine ⟨"list", "list.extend", F.plainAttrs_list, F.slot_list_extend, F.type_list_extend, ⟨_, gu, rfl⟩, fun a ea => by cases ea; exact ⟨_, gu, rfl⟩, P.extend_list (hev _ fun ρ2 z h2 t2 st2 S2 v2 => ?_)⟩
  have eb2 := pre_get st2.pre eb
  have p := p.after (tk₁ := t2) st2
  clear hev gu ru st2
  obtain ⟨c, ec, rfl⟩ := v2
  obtain ⟨us2, k2, gu2, ru2⟩ := S2.obj _ _ b hn eb2
  obtain ⟨us3, k3, gu3, ru3⟩ := S2.obj _ _ c hy ec
  have big : 1000 + 1000 ≤ sizeLine := by decide
  refine ⟨c, _, _, _, _, by rw [ru2.isList]; exact Nat.le_trans hz.1 (by decide), ?_, ?_, rfl, gu2, gu3, p ρ2 _ _ t2 (Stp.put _ (List.mem_of_getElem? eb2)) (S2.list_put (ys := xs ++ ys) (us := us2 ++ us3) hn eb2 h0 gu2 (by simp) (ru2.append ru3)) rfl⟩
  · rw [ru2.isList, ru3.isList]; exact Nat.le_trans (Nat.add_le_add hz.1 hz.2) (Nat.le_succ_of_le big)
  · rw [ru2.isList, ru3.isList]
    simp only [Builtin.List.listTooLong, Bool.and_eq_true, decide_eq_true_eq, not_and]
    intro _
    have := Nat.le_trans (Nat.add_le_add hz.1 hz.2) big
    (first | lia | omega)
theorem m_pop {i : Int} {j : Nat} (e2 : EvS prog w h₁ T E L a Hm (.int i) H1) (hn0 : Hm[n]? = some (.list xs0)) (hn : H1[n]? = some (.list xs)) (h0 : n ≠ 0) (hj : idx xs.length i = some j) (hxj : xs[j]? = some u) : EvS prog w h₁ T E L (.Call (.Attribute o ("pop" : Str) apos) [a] [] pos) H u (H1.set n (.list (xs.eraseIdx j))) := by
  intro A ρ env s ok S R l Q p
  refine meth1 ok S R l hb hli hs e1 e2 fun ρ1 y h1 t1 st1 S1 v1 hev => ?_
  have p := p.after (tk₁ := t1) st1
  clear e1 e2 S R l st1
  obtain ⟨b, eb, rfl⟩ := v1
  obtain ⟨us, k, gu, ru⟩ := S1.obj _ _ b hn0 eb
  refine ⟨"list", "list.pop", F.plainAttrs_list, F.slot_list_pop, F.type_list_pop, ⟨_, gu, rfl⟩, fun a ea => by cases ea; exact ⟨_, gu, rfl⟩, P.pop_at_list (hev _ fun ρ2 z h2 t2 st2 S2 v2 => ?_)⟩
  have eb2 := pre_get st2.pre eb
  have p := p.after (tk₁ := t2) st2
  clear hev gu ru st2
  obtain ⟨t, rfl⟩ := v2
  obtain ⟨us2, k2, gu2, ru2⟩ := S2.obj _ _ b hn eb2
  obtain ⟨y, hy, vy⟩ := ru2.get hxj
  obtain ⟨i1, i2, i3⟩ := idx_at hj
  refine ⟨_, _, i, t, j, y, ?_, rfl, gu2, ?_, by rw [ru2.isList]; exact i1, by simpa using hy, p ρ2 _ _ t2 (Stp.put _ (List.mem_of_getElem? eb2)) (S2.list_put (ys := xs.eraseIdx j) (us := us2.eraseIdx j) hn eb2 h0 gu2 (by simp) (ru2.erase j)) vy⟩
  · rw [ru2.isList]; exact Nat.le_trans (by unfold idx at hj; exact on hj fun h _ => Nat.not_lt.mp h) (by decide)
  · unfold Builtin.List.listFitsIndex; simp; (first | lia | omega)
theorem m_index {l : List Int} {xs0 : List CV} {i : Int} (e2 : EvS prog w h₁ T E L a Hm (.int i) H1) (hn0 : Hm[n]? = some (.list xs0)) (hn : H1[n]? = some (.list (intL l))) (hz : l.length ≤ 1000) (hi : i ∈ l) : EvS prog w h₁ T E L (.Call (.Attribute o ("index" : Str) apos) [a] [] pos) H (.int (l.idxOf i : Nat)) H1 := by
  intro A ρ env s ok S R l' Q p
  refine meth1 ok S R l' hb hli hs e1 e2 fun ρ1 y h1 t1 st1 S1 v1 hev => ?_
  have p := p.after (tk₁ := t1) st1
  clear e1 e2 S R l' st1
  obtain ⟨b, eb, rfl⟩ := v1
  obtain ⟨us, k, gu, ru⟩ := S1.obj _ _ b hn0 eb
  refine ⟨"list", "list.index", F.plainAttrs_list, F.slot_list_index, F.type_list_index, ⟨_, gu, rfl⟩, fun a ea => by cases ea; exact ⟨_, gu, rfl⟩, P.index_list (hev _ fun ρ2 z h2 t2 st2 S2 v2 => ?_)⟩
  have eb2 := pre_get st2.pre eb
  have p := p.after (tk₁ := t2) st2
  clear hev gu ru st2
  obtain ⟨t, rfl⟩ := v2
  obtain ⟨us2, k2, gu2, ru2⟩ := S2.obj _ _ b hn eb2
  obtain ⟨ys, rfl, rfl⟩ := ints_items ru2
  have j1 := List.idxOf_lt_length_iff.mpr hi
  have j2 := List.getElem_idxOf j1
  have j3 : ∀ m (hm : m < (ys.map (·.1)).length), m < (ys.map (·.1)).idxOf i → (ys.map (·.1))[m] ≠ i := fun m hm lt => by simpa using List.not_of_lt_findIdx lt
  generalize (ys.map (·.1)).idxOf i = j at *
  rw [List.length_map] at j1 hz
  rw [List.getElem_map] at j2
  refine ⟨_, _, fun y => match y with | .int a _ => a == i | _ => false, j, by simpa using j1, gu2, fun y my => ?_, by (first | lia | omega), by simp [j2], fun m hm lt => ?_, (p.here S2 ⟨_, rfl⟩ _)⟩
  · obtain ⟨q, _, rfl⟩ := List.mem_map.mp (List.mem_toArray.mp my)
    exact MeetsSeq.EqGives.int q.1 i q.2 t
  · have := j3 m (by simpa using hm) lt
    rw [List.getElem_map] at this
    simp [this]
theorem m_indexT {a' b' c' i : Int} {xs0 : List CV} {j : Nat} (e2 : EvS prog w h₁ T E L a Hm (.int i) H1) (hn0 : Hm[n]? = some (.tup xs0)) (hn : H1[n]? = some (.tup [.int a', .int b', .int c'])) (hj : (a' = i ∧ j = 0) ∨ (a' ≠ i ∧ b' = i ∧ j = 1) ∨ (a' ≠ i ∧ b' ≠ i ∧ c' = i ∧ j = 2)) : EvS prog w h₁ T E L (.Call (.Attribute o ("index" : Str) apos) [a] [] pos) H (.int j) H1 := by
  intro A ρ env s ok S R l Q p
  refine meth1 ok S R l hb hli hs e1 e2 fun ρ1 y h1 t1 st1 S1 v1 hev => ?_
  have p := p.after (tk₁ := t1) st1
  clear e1 e2 S R l st1
  obtain ⟨ad, eb, rfl⟩ := v1
  obtain ⟨us, k, gu, ru⟩ := S1.obj _ _ ad hn0 eb
  refine ⟨"tuple", "tuple.index", F.plainAttrs_tuple, F.slot_tuple_index, F.type_tuple_index, ⟨_, gu, rfl⟩, fun a ea => by cases ea; exact ⟨_, gu, rfl⟩, Calls.callWith_builtin rfl (Calls.evalArgs_plain (Calls.spliced_cons (hev _ fun ρ2 z h2 t2 st2 S2 v2 => Calls.spliced_nil ?_)))⟩
  have eb2 := pre_get st2.pre eb
  have p := p.after (tk₁ := t2) st2
  clear hev gu ru st2
  obtain ⟨t, rfl⟩ := v2
  obtain ⟨us2, k2, gu2, ru2⟩ := S2.obj _ _ ad hn eb2
  obtain - | ⟨⟨ta, rfl⟩, - | ⟨⟨tb, rfl⟩, - | ⟨⟨tc, rfl⟩, rn⟩⟩⟩ := ru2
  cases rn
  exact tup_index gu2 hj (p.here S2 ⟨_, rfl⟩ _)
end
theorem m_lower {x y : Str} (hb : plainBase o = true) (hli : apos.endLine = pos.line) (e1 : EvS prog w h₁ T E L o H (.str x) H1) (hl : strLower x = some y) : EvS prog w h₁ T E L (.Call (.Attribute o ("lower" : Str) apos) [] [] pos) H (.str y) H1 := by
  intro A ρ env s ok S R l Q p
  obtain ⟨q1, q2⟩ := low_of hl
  refine wpAny_Call_method_late (trees := []) (base_plain hb _) rfl (by simp [hli]) rfl (e1 ok S R l fun ρ1 y1 h1 t1 st1 S1 v1 => ?_)
  obtain ⟨t, rfl⟩ := v1
  exact SB.lower (prog := prog) (w := w) (A := A) (E := Fx) (x := x) (t := t) (pos := pos) (Q := Q) (s := { s with heap := h1, toks := t1 }) q2 (by rw [q1]; exact p ρ1 _ h1 _ st1 S1 ⟨_, rfl⟩)
end
end Mine
end

section
set_option maxRecDepth 100000
set_option linter.unusedVariables false
set_option linter.unusedSectionVars false
set_option autoImplicit false
namespace Mine
open PySem PySem.W PyProof.Rows PySem.SeqAt
section
variable {M : Model} {A : Around} {E : Value → Shared → Prop} {s : Shared}
/-- a call by a function object that is known only when the operands stand -/
theorem callWith_fun {pos : Pos} {a : Addr} {args : List (Bool × Sem Value)} {Q : Value → Shared → Prop} (hp : args.any (·.1) = false)
    (h : wpAny M A (evalArgs (.ref a) true args []) (fun x s₁ => (∃ o fd, s₁.heap.get? a = some o ∧ o.data = .func fd) ∧ wpAny M A (call (.ref a) x.pos x.kw) Q E s₁) E s) :
    wpAny M A (callWith pos (.ref a) [] args []) Q E s := by
  unfold callWith
  refine wpAny_bind (wpAny_holding (wpAny_mono h (fun x s₁ h₁ => wpAny_bind (wpAny_standAt ?_)) fun _ _ x => x))
  obtain ⟨⟨o, fd, g, d⟩, hc⟩ := h₁
  have tail : ∀ {t : Sem Value}, wpAny M A t Q E s₁ → wpAny M A (t >>= fun r => holding [r] point >>= fun _ => pure r) Q E s₁ :=
    fun ht => wpAny_bind (wpAny_mono ht (fun r s₂ hr => wpAny_bind (wpAny_holding (wpAny_point (wpAny_pure hr)))) fun _ _ x => x)
  simp only [hp, List.any_nil, Bool.or_false]
  refine wpAny_bind (m := keeperOf (.ref a)) ?_
  unfold keeperOf
  refine wpAny_bind (wpAny_load g ?_)
  rw [d]
  refine wpAny_pure ?_
  show wpAny M A (if args.length + 2 * 0 > 30 then call (.ref a) x.pos x.kw >>= fun r => holding [r] point >>= fun _ => pure r else callMarked plainCall (.ref a) x.pos x.kw >>= fun r => holding [r] point >>= fun _ => pure r) Q E s₁
  by_cases hl : args.length + 2 * 0 > 30
  · rw [if_pos hl]; exact tail hc
  · rw [if_neg hl]; exact tail (by unfold callMarked; exact Calls.wpAny_keep hc)
end
section
variable {prog : Program} {w : World} {h₁ : Heap} {T : Txt} {mg mb : Str → Option Value} {A : Around} {ρ ρ₁ : List Addr} {E : CE} {L L' : CL} {H Hm H1 H' : CH} {env : Env} {s : Shared} {v u : CV} {o : Expr} {as : List Expr} {apos pos : Pos} {vs : List CV} {Q : Value → Shared → Prop}
theorem ev_CallLocal (B : Bs h₁ T mg mb) {f : Str} {fp : Pos} {n k lv : Nat} {cells : List (Str × Nat)} {ps : List Str} {body : Expr} {sc : Scope} {L1 : CL} {H2 : CH}
    (hne : as.isEmpty = false) (hk : kindIn E f = some .local) (hL : L.lookup f = some (.loc n)) (e1 : EsS prog w h₁ T E L as H vs H1) (hn : H1[n]? = some (.clo k cells ps body sc)) (hc : H1[k]? = some .code) (hlv : E.lv = lv + 1) (hlen : ps.length = vs.length)
    (eb : bindAll ⟨sc, (newCells sc.names cells H1).1, lv, 0, "_law_first.<locals>.<lambda>.<locals>."⟩ (ps.zip vs) [] (newCells sc.names cells H1).2 = some (L1, H2))
    (ev : EvS prog w h₁ T ⟨sc, (newCells sc.names cells H1).1, lv, 0, "_law_first.<locals>.<lambda>.<locals>."⟩ L1 body H2 v H') : EvS prog w h₁ T E L (.Call (.Name f fp) as [] pos) H v H' := by
  intro A ρ env s ok S R l Q p
  obtain ⟨a, es, rfl⟩ := args_cons hne
  have hp := evList_plain e1
  refine PyProof.Rows.Call_ (wpAny_Name (nm_load (x := f) (v := .loc n) B (by unfold getName; rw [hk]; exact hL) S R l fun y vy => ?_) (R.ne hk R.nodbg))
  obtain ⟨ad, ea, rfl⟩ := vy
  refine callWith_fun (plain_any hp) ?_
  have := evs_ok (pos := pos) ok e1 S R l (Q := fun vals s₁ => (∃ o fd, s₁.heap.get? ad = some o ∧ o.data = .func fd) ∧ wpAny (model prog w) A (call (.ref ad) vals []) Q Fx s₁) fun ρ1 xs h1 t1 st1 S1 v1 => by
    have ea1 := pre_get st1.pre ea
    obtain ⟨c', fd, ec, g, _⟩ := S1.obj _ _ ad hn ea1
    exact ⟨⟨_, fd, g, rfl⟩, call_lam B (hlv ▸ ok) S1 v1 hn hc ea1 hlen eb ev (p.after st1)⟩
  rw [star_cons (hp a (.head _))] at this ⊢
  exact Calls.evalArgs_plain this
end
end Mine
end

section
set_option maxRecDepth 100000
set_option linter.unusedVariables false
set_option linter.unusedSectionVars false
set_option autoImplicit false
namespace Mine
open PySem PySem.W PyProof.Rows PySem.SeqAt
section
variable {prog : Program} {w : World} {h₁ : Heap} {T : Txt} {mg mb : Str → Option Value} {A : Around} {ρ ρ₁ : List Addr} {E : CE} {L L' : CL} {H Hm H1 H' : CH} {env : Env} {s : Shared} {v u : CV} {o : Expr} {as : List Expr} {apos pos : Pos} {vs : List CV} {Q : Value → Shared → Prop} {h h' : Heap}
/-- a thing that stands already, followed from now on -/
theorem SR.add (S : SR h₁ T ρ H h) {b : Addr} {o : CO} (nb : b ∉ ρ) (hb : 110 ≤ b) (hc : o ≠ .code) (rr : OR T (ρ ++ [b]) h o b) : SR h₁ T (ρ ++ [b]) (H ++ [o]) h := by
  have pre : ρ <+: ρ ++ [b] := List.prefix_append _ _
  have atNew : (ρ ++ [b])[H.length]? = some b := S.at_new _
  have hpos : 0 < ρ.length := (List.getElem?_eq_some_iff.mp S.zero).1
  refine ⟨by rw [List.length_append, List.length_append, S.len]; rfl, ?_, pre_get pre S.zero, fun n a e z => snoc_inv e (fun _ e => S.high n a e z) fun _ e => e ▸ hb,
    fun n o a e f => snoc_inv e (fun hn e => snoc_inv f (fun _ f => (S.obj n o a e f).mono pre) fun hm _ => absurd (hm.trans S.len) (Nat.ne_of_lt hn)) fun hn e => snoc_inv f (fun hm _ => absurd (hn.trans S.len.symm) (Nat.ne_of_lt hm)) fun _ f => e ▸ f ▸ rr, S.low, ?_, S.size, S.base⟩
  · rw [List.nodup_append]
    exact ⟨S.nd, List.pairwise_singleton .., fun a m c m' => by rw [List.mem_singleton.mp m']; exact fun z => nb (z ▸ m)⟩
  · have t := S.tab
    unfold TabOk at t ⊢
    rw [SR.codeAt_append _ _ hc]
    split at t
    · exact t
    · obtain ⟨c, e, q⟩ := t
      exact ⟨c, pre_get pre e, q⟩
theorem ev_Dict0 : EvS prog w h₁ T E L (.Dict [] [] pos) H (.loc H.length) (H ++ [.dict [] 0]) := fun {A ρ env s} ok S R l Q p =>
  wpAny_Dict_empty (p.newly S (by intro z; cases z) ⟨[], Heap.get?_push_size _ rfl, .nil, by simp⟩ s.toks)
theorem ev_Dict1 {k x : Expr} {a b : Int} (e2 : EvS prog w h₁ T E L k H (.int a) Hm) (e4 : EvS prog w h₁ T E L x Hm (.int b) H1) : EvS prog w h₁ T E L (.Dict [some k] [x] pos) H (.loc H1.length) (H1 ++ [.dict [(a, b)] 1]) := by
  intro A ρ env s ok S R l Q p
  rw [arm_eval_Dict]
  have hsh : (evalEachOpt [some k] env).zip ((evalEach [x] env).map fun v => do let x ← v; standAt pos; pure x) = [(eval k env, (do let y ← eval x env; standAt pos; pure y : Sem Value))].map fun p => (some p.1, p.2) := rfl
  rw [hsh]
  rw [dictDisplay_pairs _ (by simp) (by simp)]
  refine wpAny_bind (wpAny_standAt (wpAny_bind ?_))
  unfold subDict
  refine wpAny_bind (wpAny_alloc ?_)
  refine wpAny_bind (wpAny_holding ?_)
  rw [if_pos (by simp)]
  have S0 := S.push { cls := .type "dict", data := .dict #[] }
  have st0 : Stp [] ρ s.heap ρ (s.heap.push { cls := .type "dict", data := .dict #[] }) := Stp.push ..
  have g0 : (s.heap.push { cls := .type "dict", data := .dict #[] }).get? s.heap.objs.size = some { cls := .type "dict", data := .dict #[] } := Heap.get?_push_size _ rfl
  have n0 : s.heap.objs.size ∉ ρ := fun m => absurd (S.lt m) (Nat.lt_irrefl _)
  have R0 := R.step st0 l.lt
  have l0 := l.ev R st0
  have z0 : s.heap.objs.size < (s.heap.push { cls := .type "dict", data := .dict #[] }).objs.size := by rw [Heap.size_push]; exact Nat.lt_succ_self _
  generalize s.heap.push { cls := .type "dict", data := .dict #[] } = h0 at S0 st0 g0 R0 l0 z0 ⊢
  refine wpAny_bind ?_
  simp only [evalPairs]
  refine wpAny_bind (e2 ok S0 R0 l0 fun ρ1 y1 h1 t1 st1 S1 q1 => wpAny_bind (wpAny_holding (wpAny_bind ?_)))
  have R1 := R0.step st1 l0.lt
  have l1 := l0.ev R0 st1
  refine e4 ok S1 R1 l1 fun ρ2 y2 h2 t2 st2 S2 q2 => wpAny_bind (wpAny_standAt (wpAny_pure (wpAny_bind (wpAny_holding (wpAny_pure (wpAny_pure ?_))))))
  obtain ⟨tk, rfl⟩ := q1
  obtain ⟨tv, rfl⟩ := q2
  have st02 := st1.trans st2 fun _ m => nomatch m
  have nb : s.heap.objs.size ∉ ρ2 := fun m => by
    rcases st02.fresh _ m with m | m
    · exact n0 m
    · exact absurd z0 (Nat.not_lt.mpr m)
  have g2 := st02.keep _ _ g0 n0 (ne91 S.size) (fun m => nomatch m)
  refine wpAny_holding ?_
  simp only [List.forIn_cons, List.forIn_nil]
  refine wpAny_bind (wpAny_bind (wpAny_bind (put_dict (s := { s with heap := h2, toks := t2 }) (kvs := []) (es := []) g2 .nil rfl (by simp) fun h3 g3 hs3 => wpAny_pure (wpAny_pure (wpAny_pure (wpAny_pure ?_))))))
  have S3 := SR.off (s := { s with heap := h2, toks := t2 }) S2 hs3 nb S.size
  have st3 : Stp [s.heap.objs.size] ρ2 h2 ρ2 h3 := Stp.same hs3 (.inr (.head _))
  refine wpAny_pure (p (ρ2 ++ [s.heap.objs.size]) _ h3 _ ?_ (S3.add nb S.size (by intro z; cases z) ⟨_, g3, DRs.cons .nil, by simp⟩) ⟨_, S3.at_new _, rfl⟩)
  have st := (st0.trans st02 fun _ m => nomatch m).trans st3 fun a m => .inr (List.mem_singleton.mp m ▸ Nat.le_refl _)
  refine ⟨st.pre.trans (List.prefix_append _ _), fun a m => ?_, st.size, st.keep⟩
  rcases List.mem_append.mp m with m | m
  · exact st.fresh a m
  · rw [List.mem_singleton.mp m]; exact .inr (Nat.le_refl _)
end
end Mine
end

section
set_option maxRecDepth 100000
set_option linter.unusedVariables false
set_option linter.unusedSectionVars false
set_option autoImplicit false
namespace Mine
open PySem PySem.W PyProof.Rows PySem.SeqAt
/-- the text's own class -/
structure ClBase (h₁ : Heap) (T : Txt) (mN : Str → Option Value) : Prop where
  cls : ClsAt h₁ 38 37 mN
  ga : mN "__getattribute__" = none
  gx : mN "__getattr__" = none
  sa : mN "__setattr__" = none
  fld : mN "comp_select_list" = none
  cmp : mN "compare" = some (.ref T.cmp.addr)
  cmpO : FnObj h₁ T.cmp
  cmpC : ∃ o, h₁.get? T.cmp.addr = some o ∧ o.cls = .type "function"
theorem obj_no_fld : typeLookup (.type "object") "comp_select_list" = pure none := by rw [typeLookup_type, builtinLookup_eq_fast]; kernel_rfl
theorem obj_no_cmp : typeLookup (.type "object") "compare" = pure none := by rw [typeLookup_type, builtinLookup_eq_fast]; kernel_rfl
section
variable {prog : Program} {w : World} {h₁ : Heap} {T : Txt} {mg mb mN : Str → Option Value} {A : Around} {ρ ρ₁ : List Addr} {E : CE} {L L' : CL} {H Hm H1 H' : CH} {env : Env} {s : Shared} {v u : CV} {o : Expr} {as : List Expr} {apos pos : Pos} {vs : List CV} {Q : Value → Shared → Prop}
theorem cls_here (C : ClBase h₁ T mN) (S : SR h₁ T ρ H s.heap) : ClsAt s.heap 38 37 mN := by
  obtain ⟨nm, q, bs, sn, sub, col, dd, k0, k1, k2, k3, k5, g⟩ := C.cls.obj
  exact ⟨⟨nm, q, bs, sn, sub, col, dd, k0, k1, k2, k3, k5, S.low _ _ (by decide) g⟩, C.cls.ns.at fun o e => S.low _ _ (by decide) e⟩
/-- a method of an own class called -/
theorem call_own {name : Str} {args : List Expr} {trees : List (Bool × Sem Value)} {Q : Value → Shared → Prop} {E' : Value → Shared → Prop}
    (hbase : attributeBase o name env (eval o env) = eval o env)
    (hfew : ((backTo pos (starEach args env)).all (fun x => !x.1) && (backToKw pos (keywordEach [] env)).all (fun x => x.1.isSome)
      && decide (args.length + ([] : List Keyword).length + (if ([] : List Keyword).isEmpty then 0 else 1) < 30)) = true)
    (hline : (apos.endLine == pos.line) = true)
    (htrees : backTo pos (starEach args env) = trees)
    (h : wpAny (model prog w) A (eval o env) (fun ov s₁ => ∃ f fs, (∀ (pl : Sem Bool) (Q' : Value × List Value → Shared → Prop), Q' (f, fs) s₁ → wpAny (model prog w) A (getMethod ov name pl) Q' E' s₁) ∧ wpAny (model prog w) A (callWith pos f fs trees []) Q E' s₁) E' s) :
    wpAny (model prog w) A (eval (.Call (.Attribute o name apos) args [] pos) env) Q E' s := by
  subst htrees
  rw [arm_eval_Call, hbase]
  refine wpAny_bind (wpAny_mono h (fun ov s₁ h₁ => ?_) fun _ _ e => e)
  obtain ⟨f, fs, hm, hc⟩ := h₁
  refine wpAny_bind (wpAny_standAt ?_)
  have hform : methodCallForm (args.length + ([] : List Keyword).length) (backTo pos (starEach args env)) (backToKw pos (keywordEach [] env)) = true := hfew
  have hpos : methodCallPos true o env apos pos = pure pos := by unfold methodCallPos; simp [hline]
  unfold methodCall
  rw [hform]
  refine wpAny_bind (wpAny_holding (hm _ _ ?_))
  exact wpAny_bind (wpAny_of_eq hpos hc)
theorem ev_Attribute (C : ClBase h₁ T mN) (hb : plainBase o = true) {n d l' : Nat} (e1 : EvS prog w h₁ T E L o H (.loc n) H1) (hn : H1[n]? = some (.inst d)) (hd : H1[d]? = some (.idict (some l'))) : EvS prog w h₁ T E L (.Attribute o ("comp_select_list" : Str) pos) H (.loc l') H1 := by
  intro A ρ env s ok S R l Q p
  refine Attribute_any_ (e1 ok S R l fun ρ1 x1 h1 t1 st1 S1 v1 => ?_) (by rw [arm_eval_Attribute, base_plain hb])
  obtain ⟨x, ex, rfl⟩ := v1
  obtain ⟨da, ob, ed, g, hcl, hdi, hnc, hne⟩ := S1.obj _ _ x hn ex
  obtain ⟨la, el, ns⟩ := S1.obj _ _ da hd ed
  have K := cls_here (s := { s with heap := h1, toks := t1 }) C S1
  obtain ⟨nm, q, bs, sn, sub, col, dd, k0, k1, k2, k3, k5, gC⟩ := K.obj
  exact load_attr (h := h1) gC K.ns C.ga C.fld obj_no_fld ⟨ob, g, hcl, hnc, .inr ⟨da, hdi, hne, ns⟩⟩ (by rw [if_pos rfl]) rfl (p ρ1 _ h1 _ st1 S1 ⟨la, el, rfl⟩)
theorem m_compare (C : ClBase h₁ T mN) (hb : plainBase o = true) (hli : apos.endLine = pos.line) (hz : as.length ≤ 10) (hne : as.isEmpty = false) {n d l' : Nat} (e1 : EvS prog w h₁ T E L o H (.loc n) Hm) (e2 : EsS prog w h₁ T E L as Hm vs H1) (hn : Hm[n]? = some (.inst d)) (hd : Hm[d]? = some (.idict (some l')))
    (e : FnS prog w h₁ T T.cmp E.lv (.loc n :: vs) H1 u H') : EvS prog w h₁ T E L (.Call (.Attribute o ("compare" : Str) apos) as [] pos) H u H' := by
  intro A ρ env s ok S R l Q p
  obtain ⟨a, es, rfl⟩ := args_cons hne
  have hp := evList_plain e2
  refine call_own (base_plain hb _) (plain_few hp hz) (by simp [hli]) rfl (e1 ok S R l fun ρ1 x1 h1 t1 st1 S1 v1 => ?_)
  obtain ⟨x, ex, rfl⟩ := v1
  obtain ⟨da, ob, ed, g, hcl, hdi, hnc, hne⟩ := S1.obj _ _ x hn ex
  obtain ⟨la, el, ns⟩ := S1.obj _ _ da hd ed
  have K := cls_here (s := { s with heap := h1, toks := t1 }) C S1
  obtain ⟨nm, q, bs, sn, sub, col, dd, k0, k1, k2, k3, k5, gC⟩ := K.obj
  obtain ⟨of, gf, hfc⟩ := C.cmpC
  refine ⟨.ref T.cmp.addr, [.ref x], fun pl Q' q' => method_of (h := h1) gC K.ns C.ga C.gx C.cmp (S1.low _ _ C.cmpO.ne gf) hfc obj_no_cmp ⟨ob, g, hcl, hnc, .inr ⟨da, hdi, hne, ns⟩⟩ (by simp; decide) q', ?_⟩
  obtain ⟨o', fd, go, hdat, _⟩ := C.cmpO.obj
  have R1 := R.step st1 l.lt
  have l1 := l.ev R st1
  have := evs_ok (pos := pos) (s := { s with heap := h1, toks := t1 }) ok e2 S1 R1 l1 (Q := fun vals s₁ => (s₁.heap.get? T.cmp.addr = some o' ∧ o'.data = .func fd) ∧ wpAny (model prog w) A (call (.ref T.cmp.addr) ([.ref x] ++ vals)) Q Fx s₁) fun ρ2 xs h2 t2 st2 S2 v2 => by
    refine ⟨⟨S2.low _ _ C.cmpO.ne go, hdat⟩, ?_⟩
    exact e C.cmpO ok S2 (.cons (c := .loc n) ⟨x, pre_get st2.pre ex, rfl⟩ v2) ((p.after st1).after st2)
  rw [star_cons (hp a (.head _))] at this ⊢
  exact Calls.callWith_function (o := o') (fd := fd) (Calls.evalArgs_plain this)
end
end Mine
end

section
set_option maxRecDepth 100000
set_option linter.unusedVariables false
set_option autoImplicit false
namespace Mine
open PySem PySem.W PyProof.Rows
noncomputable abbrev sI (x : Str) (t : Tok) : Obj := { cls := .type "str_ascii_iterator", data := .fields #[.str x t, .int 0 0] }
noncomputable abbrev zS1 (h : Heap) (x : Str) (t : Tok) : Heap := h.push (sI x t)
noncomputable abbrev zS2 (h : Heap) (x y : Str) (t u : Tok) : Heap := (zS1 h x t).push (sI y u)
noncomputable abbrev zS3 (h : Heap) (x y : Str) (t u : Tok) : Heap := (zS2 h x y t u).push { cls := .type "tuple", data := .seq #[.ref h.objs.size, .ref (zS1 h x t).objs.size] }
noncomputable abbrev zS4 (h : Heap) (x y : Str) (t u : Tok) : Heap := (zS3 h x y t u).push { cls := .type "tuple", data := .seq #[.none, .none] }
noncomputable abbrev zS5 (h : Heap) (x y : Str) (t u : Tok) : Heap := (zS4 h x y t u).push { cls := .type "zip", data := .fields #[.none, .bool false, .bool false, .ref (zS2 h x y t u).objs.size, .ref (zS3 h x y t u).objs.size] }
set_option maxHeartbeats 4000000 in
theorem meets_zipS (x y : Str) (t u : Tok) (hx : x.cps.all (· < 128) = true) (hy : y.cps.all (· < 128) = true) :
    Meets (Builtin.«zip.__new__» ⟨[.type "zip", .str x t, .str y u], []⟩) (fun _ R s =>
      R (.ok (.ret (.ref (zS4 s.heap x y t u).objs.size))) { s with heap := zS5 s.heap x y t u }) :=
  .of_wp fun prog w A R s h => by
    obtain ⟨hp, g, d, tk, os⟩ := s
    have hsub := sub_zip
    wp_walk using wpAny_pyIter_ascii (x := x) (t := t) hx, wpAny_pyIter_ascii (x := y) (t := u) hy
    exact ⟨_, rfl, h⟩
theorem call_zipS {prog : Program} {w : World} {A : Around} {E : Value → Shared → Prop} {s : Shared} {x y : Str} {t u : Tok} {Q : Value → Shared → Prop} (hx : x.cps.all (· < 128) = true) (hy : y.cps.all (· < 128) = true)
    (h : ∀ h', IsZip h' (s.heap.objs.size + 4) (s.heap.objs.size + 2) (s.heap.objs.size + 3) .none → IsPair h' (s.heap.objs.size + 2) (.ref s.heap.objs.size) (.ref (s.heap.objs.size + 1)) →
      IsPair h' (s.heap.objs.size + 3) .none .none → h'.IsStrIter s.heap.objs.size "str_ascii_iterator" x t 0 → h'.IsStrIter (s.heap.objs.size + 1) "str_ascii_iterator" y u 0 → h'.objs.size = s.heap.objs.size + 5 →
      (∀ c o, s.heap.get? c = some o → h'.get? c = some o) → Q (.ref (s.heap.objs.size + 4)) { s with heap := h' }) :
    wpAny (model prog w) A (call (.type "zip") [.str x t, .str y u]) Q E s := by
  refine callType_new F.called_zip (by decide) (F.typeCall_zip_2 _ _) (F.newCall_zip_2 _ _) (fun obj => F.args_object_init_3 obj _ _) F.entry_zip_new
    (meets_zipS x y t u hx hy) ?_
  have z1 : (zS1 s.heap x t).objs.size = s.heap.objs.size + 1 := Heap.size_push ..
  have z2 : (zS2 s.heap x y t u).objs.size = s.heap.objs.size + 2 := by rw [Heap.size_push, z1]
  have z3 : (zS3 s.heap x y t u).objs.size = s.heap.objs.size + 3 := by rw [Heap.size_push, z2]
  have z4 : (zS4 s.heap x y t u).objs.size = s.heap.objs.size + 4 := by rw [Heap.size_push, z3]
  have z5 : (zS5 s.heap x y t u).objs.size = s.heap.objs.size + 5 := by rw [Heap.size_push, z4]
  have g5 : (zS5 s.heap x y t u).get? (zS4 s.heap x y t u).objs.size = some _ := Heap.get?_push_size _ rfl
  have g4 : (zS5 s.heap x y t u).get? (zS3 s.heap x y t u).objs.size = some _ := Heap.get?_push_of_some _ (Heap.get?_push_size _ rfl)
  have g3 : (zS5 s.heap x y t u).get? (zS2 s.heap x y t u).objs.size = some _ := Heap.get?_push_of_some _ (Heap.get?_push_of_some _ (Heap.get?_push_size _ rfl))
  have g2 : (zS5 s.heap x y t u).get? (zS1 s.heap x t).objs.size = some _ := Heap.get?_push_of_some _ (Heap.get?_push_of_some _ (Heap.get?_push_of_some _ (Heap.get?_push_size _ rfl)))
  have g1 : (zS5 s.heap x y t u).get? s.heap.objs.size = some _ := Heap.get?_push_of_some _ (Heap.get?_push_of_some _ (Heap.get?_push_of_some _ (Heap.get?_push_of_some _ (Heap.get?_push_size _ rfl))))
  show _ ∧ _
  rw [z2, z3, z4] at g5
  rw [z1, z2] at g3
  rw [z3] at g4
  rw [z1] at g2
  rw [z4]
  exact ⟨⟨_, g5, rfl⟩, h _ g5 g3 g4 ⟨_, g1, rfl, rfl⟩ ⟨_, g2, rfl, rfl⟩ z5 fun c o x =>
    Heap.get?_push_of_some _ (Heap.get?_push_of_some _ (Heap.get?_push_of_some _ (Heap.get?_push_of_some _ (Heap.get?_push_of_some _ x))))⟩
end Mine
end

section
set_option maxRecDepth 100000
set_option linter.unusedVariables false
set_option linter.unusedSectionVars false
set_option autoImplicit false
namespace Mine
open PySem PySem.W PyProof.Rows PySem.SeqAt
section
variable {prog : Program} {w : World} {h₁ : Heap} {T : Txt} {mg mb : Str → Option Value} {A : Around} {ρ : List Addr} {E : CE} {L : CL} {H H1 : CH} {env : Env} {s : Shared} {it : CIt} {Q : Value → Shared → Prop}
theorem off_new (S : SR h₁ T ρ H s.heap) (ll : env.locals < s.heap.objs.size) {a : Addr} (ge : s.heap.objs.size ≤ a) : a ∉ ρ ∧ a ≠ env.locals ∧ 110 ≤ a :=
  ⟨fun z => absurd (S.lt z) (Nat.not_lt.mpr ge), fun z => absurd ll (Nat.not_lt.mpr (z ▸ ge)), Nat.le_trans S.size ge⟩
theorem view_items {d n ep : Nat} {kvs : List (Int × Int)} (S : SR h₁ T ρ H s.heap) (ll : env.locals < s.heap.objs.size) (hn : H[n]? = some (.dict kvs ep)) (ed : ρ[n]? = some d) (q : PostS h₁ T ρ H env (.items false n ep kvs.length 0) s Q) :
    wpAny (model prog w) A (pyIter (.ref s.heap.objs.size)) Q Fx { s with heap := s.heap.push { cls := .type "dict_items", data := .fields #[.ref d] } } := by
  obtain ⟨es, g, dr, nd⟩ := S.obj _ _ d hn ed
  obtain ⟨vs, da, lv, _, _⟩ := dr.dictAt (prog := prog) (w := w) g nd
  have gv : (s.heap.push { cls := .type "dict_items", data := .fields #[.ref d] }).get? s.heap.objs.size = some { cls := .type "dict_items", data := .fields #[.ref d] } := Heap.get?_push_size _ rfl
  have Sv := S.push { cls := .type "dict_items", data := .fields #[.ref d] }
  have stv : Stp [] ρ s.heap ρ (s.heap.push { cls := .type "dict_items", data := .fields #[.ref d] }) := Stp.push ..
  have dv := da.at' (h' := s.heap.push { cls := .type "dict_items", data := .fields #[.ref d] }) fun o e => Heap.get?_push_of_some _ e
  generalize s.heap.push { cls := .type "dict_items", data := .fields #[.ref d] } = h2 at gv Sv stv dv ⊢
  exact wpAny_pyIter_items (knd := intKind prog w) (s := { s with heap := h2 }) ⟨_, gv, rfl, rfl⟩ dv
    (q ρ _ [h2.objs.size] (h2.push { cls := .type "dict_itemiterator", data := .fields #[.none, .bool false, .ref d, .int 0 0, .int vs.length 0, .int ep 0, .none, .none] }) s.toks (stv.trans (Stp.push (X := []) ..) fun _ m => nomatch m) (Sv.push _)
      ⟨⟨rfl, d, .none, .none, ed, by rw [← lv]; exact Heap.get?_push_size _ rfl⟩, fun a m => List.mem_singleton.mp m ▸ off_new S ll stv.size⟩ fun a m => List.mem_singleton.mp m ▸ stv.size)
theorem view_values {d n ep : Nat} {kvs : List (Int × Int)} (S : SR h₁ T ρ H s.heap) (ll : env.locals < s.heap.objs.size) (hn : H[n]? = some (.dict kvs ep)) (ed : ρ[n]? = some d) (q : PostS h₁ T ρ H env (.items true n ep kvs.length 0) s Q) :
    wpAny (model prog w) A (pyIter (.ref s.heap.objs.size)) Q Fx { s with heap := s.heap.push { cls := .type "dict_values", data := .fields #[.ref d] } } := by
  obtain ⟨es, g, dr, nd⟩ := S.obj _ _ d hn ed
  obtain ⟨vs, da, lv, _, _⟩ := dr.dictAt (prog := prog) (w := w) g nd
  have gv : (s.heap.push { cls := .type "dict_values", data := .fields #[.ref d] }).get? s.heap.objs.size = some { cls := .type "dict_values", data := .fields #[.ref d] } := Heap.get?_push_size _ rfl
  have Sv := S.push { cls := .type "dict_values", data := .fields #[.ref d] }
  have stv : Stp [] ρ s.heap ρ (s.heap.push { cls := .type "dict_values", data := .fields #[.ref d] }) := Stp.push ..
  have dv := da.at' (h' := s.heap.push { cls := .type "dict_values", data := .fields #[.ref d] }) fun o e => Heap.get?_push_of_some _ e
  generalize s.heap.push { cls := .type "dict_values", data := .fields #[.ref d] } = h2 at gv Sv stv dv ⊢
  exact wpAny_pyIter_values (knd := intKind prog w) (s := { s with heap := h2 }) ⟨_, gv, rfl, rfl⟩ dv
    (q ρ _ [h2.objs.size] (h2.push { cls := .type "dict_valueiterator", data := .fields #[.ref d, .int 0 0, .int vs.length 0, .int ep 0] }) s.toks (stv.trans (Stp.push (X := []) ..) fun _ m => nomatch m) (Sv.push _)
      ⟨⟨rfl, d, ed, by rw [← lv]; exact ⟨_, Heap.get?_push_size _ rfl, rfl, rfl⟩⟩, fun a m => List.mem_singleton.mp m ▸ off_new S ll stv.size⟩ fun a m => List.mem_singleton.mp m ▸ stv.size)
theorem PostS.after {ρ₁ : List Addr} {hp₁ : Heap} {tk₁ : Nat} (q : PostS h₁ T ρ H1 env it s Q) (st : Stp [] ρ s.heap ρ₁ hp₁) : PostS h₁ T ρ₁ H1 env it { s with heap := hp₁, toks := tk₁ } Q :=
  fun ρ' I X h' tk st' S' io hX => q ρ' I X h' tk (st.trans st' fun _ m => nomatch m) S' io fun a m => Nat.le_trans st.size (hX a m)
theorem sc_view {o : Expr} {f : Str} {apos pos : Pos} {n ep : Nat} {kvs : List (Int × Int)} (hb : plainBase o = true) (hli : apos.endLine = pos.line) (hf : f = ("items" : Str) ∨ f = ("values" : Str)) (e1 : EvS prog w h₁ T E L o H (.loc n) H1) (hn : H1[n]? = some (.dict kvs ep)) :
    ScS prog w h₁ T E L (.Call (.Attribute o f apos) [] [] pos) H (.items (decide (f = ("values" : Str))) n ep kvs.length 0) H1 := by
  refine ⟨src_set rfl, fun {A ρ env s} ok S R l Q q => ?_⟩
  refine wpAny_Call_method_late (trees := []) (base_plain hb _) rfl (by simp [hli]) rfl (e1 ok S R l fun ρ1 y h1 t1 st1 S1 v1 => ?_)
  have q := q.after (tk₁ := t1) st1
  have ll := (l.ev R st1).lt
  clear e1 S R l st1
  obtain ⟨d, ed, rfl⟩ := v1
  obtain ⟨es, g, dr, nd⟩ := S1.obj _ _ d hn ed
  obtain ⟨vs, da, lv, _, _⟩ := dr.dictAt (prog := prog) (w := w) g nd
  rcases hf with rfl | rfl
  · exact ⟨"dict", "dict.items", F.plainAttrs_dict, F.slot_dict_items, F.type_dict_items, ⟨_, g, rfl⟩, fun a ea => by cases ea; exact ⟨_, g, rfl⟩, method_meetsIn F.slot_dict_items F.entry_dict_items rfl (PySem.evalArgs_none ⟨rfl, ⟨_, g, rfl⟩, F.args_dict_items_1 _, _, meets_dict_items (intKind prog w) d (S1.notMod (s := { s with heap := h1, toks := t1 }) ed), ⟨vs, DictAt_of da⟩, view_items (s := { s with heap := h1, toks := t1 }) S1 ll hn ed q⟩)⟩
  · exact ⟨"dict", "dict.values", F.plainAttrs_dict, F.slot_dict_values, F.type_dict_values, ⟨_, g, rfl⟩, fun a ea => by cases ea; exact ⟨_, g, rfl⟩, method_meetsIn F.slot_dict_values F.entry_dict_values rfl (PySem.evalArgs_none ⟨rfl, ⟨_, g, rfl⟩, F.args_dict_values_1 _, _, meets_dict_values (intKind prog w) d (S1.notMod (s := { s with heap := h1, toks := t1 }) ed), ⟨vs, DictAt_of da⟩, view_values (s := { s with heap := h1, toks := t1 }) S1 ll hn ed q⟩)⟩
theorem sc_zip (B : Bs h₁ T mg mb) (hz : mg "zip" = some (.type "zip") ∨ (mg "zip" = none ∧ mb "zip" = some (.type "zip"))) {a b : Expr} {fp pos : Pos} {x y : Str} (hk : kindIn E ("zip" : Str) = some .globalImplicit) (e1 : EsS prog w h₁ T E L [a, b] H [.str x, .str y] H1) (hxy : x.cps.all (· < 128) ∧ y.cps.all (· < 128)) :
    ScS prog w h₁ T E L (.Call (.Name "zip" fp) [a, b] [] pos) H (.zip x y 0) H1 := by
  refine ⟨src_set rfl, fun {A ρ env s} ok S R l Q q => ?_⟩
  refine PyProof.Rows.Call_ (ld_glob B S R hk hz (callable_type "zip" (T := T) (h₁ := h₁) (evList_plain e1) ?_))
  refine evs_ok ok e1 S R l fun ρ1 xs h1 t1 st1 S1 v1 => ⟨⟨ρ1, _, S1⟩, ?_⟩
  have q := q.after (tk₁ := t1) st1
  have ll := (l.ev R st1).lt
  clear e1 S R l st1
  obtain - | ⟨⟨ta, rfl⟩, - | ⟨⟨tb, rfl⟩, rn⟩⟩ := v1
  cases rn
  refine call_zipS (by simpa using hxy.1) (by simpa using hxy.2) fun h2 z1 z2 z3 z4 z5 sz kp => wpAny_pyIter_zip z1 ?_
  dsimp only at z1 z2 z3 z4 z5 sz kp
  have zs : h1.objs.size ≤ h2.objs.size := by rw [sz]; exact Nat.le_add_right _ _
  have ge : ∀ a ∈ [h1.objs.size + 4, h1.objs.size + 2, h1.objs.size + 3, h1.objs.size, h1.objs.size + 1], h1.objs.size ≤ a := fun a m => by
    simp only [List.mem_cons, List.not_mem_nil, or_false] at m
    rcases m with rfl | rfl | rfl | rfl | rfl <;> first | exact Nat.le_refl _ | exact Nat.le_add_right _ _
  exact q ρ1 _ [h1.objs.size + 4, h1.objs.size + 2, h1.objs.size + 3, h1.objs.size, h1.objs.size + 1] h2 t1 (Stp.ext (fun a o g _ => kp a o g) zs) (S1.keeps (h' := h2) (fun a o g _ => kp a o g) zs) ⟨⟨_, _, _, _, _, _, _, _, rfl, by simp, z1, z2, z3, z4, z5⟩, fun a m => off_new (s := { s with heap := h1 }) S1 ll (ge a m)⟩ ge
end
end Mine
end

section
set_option maxRecDepth 100000
set_option linter.unusedVariables false
set_option linter.unusedSectionVars false
set_option autoImplicit false
namespace Mine
open PySem PySem.W PyProof.Rows PySem.SeqAt
theorem vrs_of {ρ : List Addr} : ∀ {xs : List CV} {ys : List Value}, xs.length = ys.length → (∀ (j : Nat) (x : CV) (y : Value), xs[j]? = some x → ys[j]? = some y → VR ρ x y) → VRs ρ xs ys
  | [], [], _, _ => .nil
  | [], _ :: _, h, _ => by simp at h
  | _ :: _, [], h, _ => by simp at h
  | x :: xs, y :: ys, h, k => .cons (k 0 x y rfl rfl) (vrs_of (by simpa using h) fun j a b e f => k (j + 1) a b (by simpa using e) (by simpa using f))
section
variable {prog : Program} {w : World} {h₁ : Heap} {T : Txt}
theorem bi_len : BiOK prog w h₁ T .len (.builtin "len") := by
  intro A as vals H H' v ρ s Q e hh hd hu S vs p
  cases e with
  | @lenS x _ hz =>
    obtain - | ⟨⟨t, rfl⟩, vn⟩ := vs
    cases vn
    exact PySem.P.len_str (x := x) (by have : x.length ≤ 1000 := hz; (first | lia | omega)) (p.here S ⟨_, rfl⟩ _)
  | lenL hn hz =>
    obtain - | ⟨⟨a, ea, rfl⟩, vn⟩ := vs
    cases vn
    obtain ⟨us, k, gu, ru⟩ := S.obj _ _ a hn ea
    refine Calls.call_len_list ⟨_, gu, rfl, _, rfl⟩ (by rw [ru.isList]; (first | lia | omega)) ?_
    rw [ru.isList]
    exact p.here S ⟨_, rfl⟩ _
theorem bi_range : BiOK prog w h₁ T .range (.type "range") := by
  intro A as vals H H' v ρ s Q e hh hd hu S vs p
  cases e with
  | range1 =>
    obtain - | ⟨⟨t, rfl⟩, vn⟩ := vs
    cases vn
    exact call_range_1 (p.newly S (fun z => nomatch z) ⟨_, _, _, Heap.get?_push_size _ rfl⟩ _)
  | range3 hc =>
    obtain - | ⟨⟨ta, rfl⟩, - | ⟨⟨tb, rfl⟩, - | ⟨⟨tc, rfl⟩, vn⟩⟩⟩ := vs
    cases vn
    exact call_range_3 (by (first | lia | omega)) (p.newly S (fun z => nomatch z) ⟨_, _, _, Heap.get?_push_size _ rfl⟩ _) (.inl (PyProof.noPylong_small (by (first | lia | omega))))
theorem size_nn {a b c : Int} : 0 ≤ Builtin.Range.rangeSize a b c := by
  unfold Builtin.Range.rangeSize
  split <;> split
  · have := Int.ediv_nonneg (a := b - a - 1) (b := c) (by (first | lia | omega)) (by (first | lia | omega)); (first | lia | omega)
  · exact Int.le_refl 0
  · have := Int.ediv_nonneg (a := a - b - 1) (b := -c) (by (first | lia | omega)) (by (first | lia | omega)); (first | lia | omega)
  · exact Int.le_refl 0
theorem bi_list : BiOK prog w h₁ T .list (.type "list") := by
  intro A as vals H H' v ρ s Q e hh hd hu S vs p
  cases e with
  | @list n a b c _ hn hz =>
    obtain - | ⟨⟨ad, ea, rfl⟩, vn⟩ := vs
    cases vn
    obtain ⟨t, u, v, g⟩ := S.obj _ _ ad hn ea
    obtain ⟨m, hm⟩ := Int.eq_ofNat_of_zero_le (size_nn (a := a) (b := b) (c := c))
    refine wpAny_grow (call_list_range hh g hz.1 hm (by have := hz.2; (first | lia | omega)) fun h2 tk acc c' kp g2 it gz => ?_)
    dsimp only at gz
    have S2 := S.keeps (h' := h2) (fun a o g _ => kp a o g) gz
    have nb : s.heap.objs.size ∉ ρ := fun m => absurd (S.lt m) (Nat.lt_irrefl _)
    have vr : VRs (ρ ++ [s.heap.objs.size]) ((List.range (Builtin.Range.rangeSize a b c).toNat).map fun (i : Nat) => CV.int (a + i * c)) acc.toList := by
      rw [hm, Int.toNat_natCast]
      refine vrs_of (by simp [it.1]) fun j x y hx hy => ?_
      rw [List.getElem?_map] at hx
      obtain ⟨t', rfl⟩ := it.2 j y (by simpa using hy)
      cases hr : (List.range m)[j]? with
      | none => rw [hr] at hx; cases hx
      | some k =>
        rw [hr] at hx
        cases hx
        obtain ⟨hj, rfl⟩ := List.getElem?_eq_some_iff.mp hr
        exact ⟨t', by rw [List.getElem_range]⟩
    refine p (ρ ++ [s.heap.objs.size]) _ h2 tk ⟨List.prefix_append _ _, fun a m => ?_, gz, fun a o g _ _ _ => kp a o g⟩ (S2.add nb S.size (fun z => nomatch z) ⟨acc.toList, c', by simpa using g2, vr⟩) ⟨_, S.at_new _, rfl⟩
    rcases List.mem_append.mp m with m | m
    · exact .inl m
    · rw [List.mem_singleton.mp m]; exact .inr (Nat.le_refl _)
end
end Mine
end

section
set_option maxRecDepth 100000
set_option linter.unusedVariables false
set_option linter.unusedSectionVars false
set_option autoImplicit false
namespace Mine
open PySem PySem.W PyProof.Rows PySem.SeqAt
theorem fm_le : ∀ (r : List Int) (x : Int), r.foldl min x ≤ x ∧ ∀ a ∈ r, r.foldl min x ≤ a
  | [], x => ⟨Int.le_refl _, fun _ m => nomatch m⟩
  | y :: r, x => by
    obtain ⟨h1, h2⟩ := fm_le r (min x y)
    refine ⟨by show r.foldl min (min x y) ≤ x; (first | lia | omega), fun a m => ?_⟩
    show r.foldl min (min x y) ≤ a
    rcases List.mem_cons.mp m with rfl | m
    · (first | lia | omega)
    · exact h2 a m
theorem fm_mem : ∀ (r : List Int) (x : Int), r.foldl min x ∈ x :: r
  | [], x => .head _
  | y :: r, x => by
    have h := fm_mem r (min x y)
    show r.foldl min (min x y) ∈ x :: y :: r
    rcases List.mem_cons.mp h with h | h
    · rw [h]
      by_cases hxy : x ≤ y
      · rw [show min x y = x by (first | lia | omega)]; exact .head _
      · rw [show min x y = y by (first | lia | omega)]; exact .tail _ (.head _)
    · exact .tail _ (.tail _ h)
theorem fM_le : ∀ (r : List Int) (x : Int), x ≤ r.foldl max x ∧ ∀ a ∈ r, a ≤ r.foldl max x
  | [], x => ⟨Int.le_refl _, fun _ m => nomatch m⟩
  | y :: r, x => by
    obtain ⟨h1, h2⟩ := fM_le r (max x y)
    refine ⟨by show x ≤ r.foldl max (max x y); (first | lia | omega), fun a m => ?_⟩
    show a ≤ r.foldl max (max x y)
    rcases List.mem_cons.mp m with rfl | m
    · (first | lia | omega)
    · exact h2 a m
theorem fM_mem : ∀ (r : List Int) (x : Int), r.foldl max x ∈ x :: r
  | [], x => .head _
  | y :: r, x => by
    have h := fM_mem r (max x y)
    show r.foldl max (max x y) ∈ x :: y :: r
    rcases List.mem_cons.mp h with h | h
    · rw [h]
      by_cases hxy : y ≤ x
      · rw [show max x y = x by (first | lia | omega)]; exact .head _
      · rw [show max x y = y by (first | lia | omega)]; exact .tail _ (.head _)
    · exact .tail _ (.tail _ h)
theorem min_is {r : List Int} {x M : Int} (h1 : M ∈ x :: r) (h2 : ∀ a ∈ x :: r, M ≤ a) : M = r.foldl min x := by
  have a := h2 _ (fm_mem r x)
  have b := fm_le r x
  rcases List.mem_cons.mp h1 with rfl | h1
  · (first | lia | omega)
  · have := b.2 M h1; (first | lia | omega)
theorem max_is {r : List Int} {x M : Int} (h1 : M ∈ x :: r) (h2 : ∀ a ∈ x :: r, a ≤ M) : M = r.foldl max x := by
  have a := h2 _ (fM_mem r x)
  have b := fM_le r x
  rcases List.mem_cons.mp h1 with rfl | h1
  · (first | lia | omega)
  · have := b.2 M h1; (first | lia | omega)
theorem numAt_list (ys : List (Int × Tok)) (i : Nat) : numAt ys.toArray i = ((ys.map (·.1))[i]?).getD 0 := by
  unfold numAt
  simp
theorem preSum_list (ys : List (Int × Tok)) : ∀ k, k ≤ ys.length → preSum (numAt ys.toArray) k = ((ys.map (·.1)).take k).sum
  | 0, _ => by simp [preSum]
  | k + 1, h => by
    show preSum (numAt ys.toArray) k + numAt ys.toArray k = _
    rw [preSum_list ys k (by (first | lia | omega)), numAt_list, List.take_add_one, List.sum_append]
    have hk : k < (ys.map (·.1)).length := by rw [List.length_map]; (first | lia | omega)
    rw [List.getElem?_eq_getElem hk]
    simp
theorem preSum_bound {f : Nat → Int} (n : Nat) (h : ∀ j, j < n → -1000 < f j ∧ f j < 1000) : ∀ k, k ≤ n → -(1000 * (k : Int)) ≤ preSum f k ∧ preSum f k ≤ 1000 * k
  | 0, _ => by simp [preSum]
  | k + 1, hk => by
    have a := preSum_bound n h k (by (first | lia | omega))
    have b := h k (by (first | lia | omega))
    show -(1000 * ((k + 1 : Nat) : Int)) ≤ preSum f k + f k ∧ preSum f k + f k ≤ 1000 * ((k + 1 : Nat) : Int)
    (first | lia | omega)
section
variable {prog : Program} {w : World} {h₁ : Heap} {T : Txt}
theorem ints_at {n : Nat} {H : CH} {l : List Int} {ρ : List Addr} {vals : List Value} {s : Shared} (hn : H[n]? = some (.list (intL l))) (S : SR h₁ T ρ H s.heap) (vs : VRs ρ [.loc n] vals) :
    ∃ a ys, vals = [.ref a] ∧ s.heap.IsList a (intItems (List.toArray ys)) ∧ ys.map (·.1) = l := by
  obtain - | ⟨⟨a, ea, rfl⟩, vn⟩ := vs
  cases vn
  obtain ⟨us, k, gu, ru⟩ := S.obj _ _ a hn ea
  obtain ⟨ys, rfl, rfl⟩ := ints_items ru
  exact ⟨a, ys, rfl, ⟨_, gu, rfl, k, by simp [intItems]⟩, rfl⟩
/-- the best of a list, at place b -/
theorem best_is {ys : List (Int × Tok)} {l : List Int} {b : Nat} {R : Int → Int → Prop} {F : Int} (hy : ys.map (·.1) = l) (hsz : 0 < (List.toArray ys).size) (h : b ≤ (List.toArray ys).size - 1 ∧ ∀ j, j ≤ (List.toArray ys).size - 1 → R (numAt (List.toArray ys) b) (numAt (List.toArray ys) j))
    (k : ∀ {M : Int}, M ∈ l → (∀ a ∈ l, R M a) → M = F) : numAt (List.toArray ys) b = F := by
  refine k ?_ fun b' hb => ?_
  · rw [← hy, numAt_list]
    rw [List.getElem?_eq_getElem (by rw [List.length_map]; have := h.1; simp at this hsz ⊢; (first | lia | omega))]
    exact List.getElem_mem _
  · rw [← hy] at hb
    obtain ⟨j, hj, rfl⟩ := List.getElem_of_mem hb
    have := h.2 j (by rw [List.length_map] at hj; simp; (first | lia | omega))
    rw [numAt_list ys j, List.getElem?_eq_getElem hj] at this
    exact this
theorem bi_max : BiOK prog w h₁ T .max (.builtin "max") := by
  intro A as vals H H' v ρ s Q e hh hd hu S vs p
  cases e with
  | maxL hn =>
    obtain ⟨a, ys, rfl, gl, hy⟩ := ints_at hn S vs
    have hsz : 0 < (List.toArray ys).size := by
      have := congrArg List.length hy
      simp at this ⊢; (first | lia | omega)
    refine wpAny_grow (max_intList hh gl hsz fun v h' tk hv hk gz => ?_)
    obtain ⟨t, rfl⟩ := intItems_at hv
    have S2 := S.keeps (h' := h') (fun a o g _ => hk a o g) gz
    refine p ρ _ h' tk (Stp.ext (fun a o g _ => hk a o g) gz) S2 ⟨t, ?_⟩
    congr 1
    exact best_is hy hsz (argBest_gt _ _) (fun h1 h2 => max_is h1 h2)
theorem bi_min : BiOK prog w h₁ T .min (.builtin "min") := by
  intro A as vals H H' v ρ s Q e hh hd hu S vs p
  cases e with
  | @min2 a b _ =>
    obtain - | ⟨⟨ta, rfl⟩, - | ⟨⟨tb, rfl⟩, vn⟩⟩ := vs
    cases vn
    refine wpAny_grow (min_two_ints hh fun h' tk hk gz => ?_)
    have S2 := S.keeps (h' := h') (fun a o g _ => hk a o g) gz
    refine p ρ _ h' tk (Stp.ext (fun a o g _ => hk a o g) gz) S2 ?_
    by_cases hb : b < a
    · rw [if_pos hb, if_pos hb]; exact ⟨_, rfl⟩
    · rw [if_neg hb, if_neg hb]; exact ⟨_, rfl⟩
  | minL hn =>
    obtain ⟨a, ys, rfl, gl, hy⟩ := ints_at hn S vs
    have hsz : 0 < (List.toArray ys).size := by
      have := congrArg List.length hy
      simp at this ⊢; (first | lia | omega)
    refine wpAny_grow (min_intList hh gl hsz fun v h' tk hv hk gz => ?_)
    obtain ⟨t, rfl⟩ := intItems_at hv
    have S2 := S.keeps (h' := h') (fun a o g _ => hk a o g) gz
    refine p ρ _ h' tk (Stp.ext (fun a o g _ => hk a o g) gz) S2 ⟨t, ?_⟩
    congr 1
    exact best_is hy hsz (argBest_lt _ _) (fun h1 h2 => min_is h1 h2)
theorem bi_sum : BiOK prog w h₁ T .sum (.builtin "sum") := by
  intro A as vals H H' v ρ s Q e hh hd hu S vs p
  cases e with
  | @sum n l _ hn hc =>
    obtain ⟨a, ys, rfl, gl, hy⟩ := ints_at hn S vs
    have hlen : ys.length = l.length := by rw [← hy, List.length_map]
    have hb : ∀ j, j < ys.length → -1000 < numAt ys.toArray j ∧ numAt ys.toArray j < 1000 := fun j hj => by
      rw [numAt_list, hy, List.getElem?_eq_getElem (by (first | lia | omega))]
      have := List.all_eq_true.mp hc.2 _ (List.getElem_mem (by (first | lia | omega) : j < l.length))
      simpa using this
    refine wpAny_grow (sum_intList hh gl (fun j hj => ?_) fun h' tk t' hk gz => ?_)
    · have hj : j < ys.length := by simpa using hj
      have b1 := hb j hj
      have b2 := preSum_bound ys.length hb (j + 1) (by (first | lia | omega))
      unfold InLong
      (first | lia | omega)
    · have S2 := S.keeps (h' := h') (fun a o g _ => hk a o g) gz
      refine p ρ _ h' tk (Stp.ext (fun a o g _ => hk a o g) gz) S2 ⟨t', ?_⟩
      have := preSum_list ys ys.length (Nat.le_refl _)
      rw [List.size_toArray, this, hy, hlen, List.take_length]
end
end Mine
end

section
set_option maxRecDepth 100000
set_option linter.unusedVariables false
set_option linter.unusedSectionVars false
set_option autoImplicit false
namespace Mine
open PySem PySem.W PyProof.Rows PySem.SeqAt
noncomputable def krun {α : Type} (ans : Nat → Nat → Option Bool) : KasT α → Option α
  | .ret a => some a
  | .ask i j k => match ans i j with
    | some b => krun ans (k b)
    | none => none
theorem krun_wp {α : Type} {ans : Nat → Nat → Option Bool} {cmp : Nat → Nat → (Bool → Shared → Prop) → Shared → Prop} {Q : α → Shared → Prop} {s : Shared} (hc : ∀ i j b C, ans i j = some b → C b s → cmp i j C s) :
    ∀ (t : KasT α) {a : α}, krun ans t = some a → Q a s → t.kasWp cmp Q s
  | .ret _, a, e, q => by cases e; exact q
  | .ask i j k, a, e, q => by
    unfold krun at e
    split at e
    · rename_i b hb
      exact hc i j b _ hb (krun_wp hc (k b) e q)
    · cases e
theorem lex_total : ∀ {a b : List Int}, a.length = b.length → a ≠ b → lexLt a b = !lexLt b a
  | [], [], _, n => absurd rfl n
  | [], _ :: _, h, _ => by simp at h
  | _ :: _, [], h, _ => by simp at h
  | x :: a, y :: b, h, n => by
    unfold lexLt
    by_cases e : x = y
    · subst e
      rw [if_pos rfl, if_pos rfl]
      exact lex_total (by simpa using h) fun z => n (by rw [z])
    · rw [if_neg e, if_neg (Ne.symm e)]
      by_cases l : x < y
      · have : ¬ y < x := by (first | lia | omega)
        simp [l, this]
      · have : y < x := by (first | lia | omega)
        simp [l, this]
noncomputable def perm3 (K0 K1 K2 : List Int) : Array Nat := (order3 K0 K1 K2 0 1 2).toArray
/-- the answers that the sort asks for -/
noncomputable def tab3 (b10 b21 b20 : Bool) (i j : Nat) : Option Bool := if i = 1 ∧ j = 0 then some b10 else if i = 2 ∧ j = 1 then some b21 else if i = 2 ∧ j = 0 then some b20 else if i = 0 ∧ j = 1 then some (!b10) else if i = 1 ∧ j = 2 then some (!b21) else none
noncomputable def tperm (b10 b21 b20 : Bool) : Array Nat := (if b10 then (if b21 then [2, 1, 0] else if b20 then [1, 2, 0] else [1, 0, 2]) else if b21 then (if b20 then [2, 0, 1] else [0, 2, 1]) else [0, 1, 2]).toArray
theorem sort_tab : ∀ b10 b21 b20 : Bool, krun (tab3 b10 b21 b20) (kas_sort 3) = some (tperm b10 b21 b20) := by
  intro a b c
  cases a <;> cases b <;> cases c <;> rfl
theorem sort3 (K0 K1 K2 : List Int) : krun (tab3 (lexLt K1 K0) (lexLt K2 K1) (lexLt K2 K0)) (kas_sort 3) = some (perm3 K0 K1 K2) := sort_tab _ _ _
theorem tab3_at {b10 b21 b20 : Bool} {i j : Nat} {b : Bool} {P : Prop} (h : tab3 b10 b21 b20 i j = some b) (k1 : i = 1 → j = 0 → b10 = b → P) (k2 : i = 2 → j = 1 → b21 = b → P) (k3 : i = 2 → j = 0 → b20 = b → P) (k4 : i = 0 → j = 1 → (!b10) = b → P) (k5 : i = 1 → j = 2 → (!b21) = b → P) : P := by
  have go : ∀ {c : Prop} [Decidable c] {x : Bool} {o : Option Bool}, (if c then some x else o) = some b → (c → x = b → P) → (o = some b → P) → P := fun {c _ x o} h k k' => by
    by_cases hc : c
    · rw [if_pos hc] at h; exact k hc (Option.some.inj h)
    · rw [if_neg hc] at h; exact k' h
  exact go h (fun c => k1 c.1 c.2) fun h => go h (fun c => k2 c.1 c.2) fun h => go h (fun c => k3 c.1 c.2) fun h => go h (fun c => k4 c.1 c.2) fun h => go h (fun c => k5 c.1 c.2) fun h => nomatch h
section
variable {prog : Program} {w : World} {A : Around} {E : Value → Shared → Prop} {s : Shared} {vs : List Value}
theorem one_int {x y : Int} {t u : Tok} {Q : Bool → Shared → Prop} (f : Bool) (h : Q (decide (x < y)) s) : wpAny (model prog w) A (oneLt' f (.int x t) (.int y u)) Q E s := by
  cases f with
  | true => exact oneLt_int h
  | false => exact kat_one _ _ (lt_int h)
theorem lex_ints {b : Bool} {Q : Bool → Shared → Prop} : ∀ {ys zs : List (Int × Tok)} (i : Nat), ys.length = zs.length → Q (lexLt (ys.map (·.1)) (zs.map (·.1))) s → KatLex prog w A b false Q ((ys.map fun p => Value.int p.1 p.2).zip (zs.map fun p => Value.int p.1 p.2)) i s
  | [], [], i, _, q => kat_nil q
  | [], _ :: _, _, h, _ => by simp at h
  | _ :: _, [], _, h, _ => by simp at h
  | (x, t) :: ys, (y, u) :: zs, i, h, q => by
    simp only [List.map_cons, List.zip_cons_cons] at q ⊢
    refine kat_cons (wpAny_eqBool_int ?_)
    unfold lexLt at q
    by_cases e : x = y
    · rw [if_pos e] at q
      rw [show (x == y) = true by simp [e]]
      exact kat_yes (lex_ints (i + 1) (by simpa using h) q)
    · rw [if_neg e] at q
      rw [show (x == y) = false by simp [e]]
      exact kat_no (one_int _ q)
theorem tup_lt {x y : Addr} {n k : Nat} {ys zs : List (Int × Tok)} {b : Bool} {Q : Bool → Shared → Prop} (hx : s.heap.get? x = some { cls := .type "tuple", data := .seq (List.toArray (ys.map fun p => Value.int p.1 p.2)) n })
    (hy : s.heap.get? y = some { cls := .type "tuple", data := .seq (List.toArray (zs.map fun p => Value.int p.1 p.2)) k }) (hl : ys.length = zs.length) (q : Q (lexLt (ys.map (·.1)) (zs.map (·.1))) s) : wpAny (model prog w) A (keyLt' (tuples' b) (.ref x) (.ref y)) Q E s := by
  refine kat_lt hx rfl hy rfl ?_
  have : decide ((List.toArray (ys.map fun p => Value.int p.1 p.2)).size < (List.toArray (zs.map fun p => Value.int p.1 p.2)).size) = false := by simp [hl]
  rw [this]
  exact lex_ints 0 hl q
theorem my_list_sort {a : Addr} {n : Nat} {P : PySem.Fin → Shared → Prop} (ho : s.heap.get? a = some (seqObj "list" vs.toArray n)) (h2 : 2 ≤ vs.length) (h64 : vs.length < 64)
    (h : ∀ h', (∀ b o, b ≠ a → s.heap.get? b = some o → h'.get? b = some o) → s.heap.objs.size ≤ h'.objs.size →
      wpAny (model prog w) A (keyKind' vs.toArray) (fun κ s' => (kas_sort vs.length).kasWp (kas_ask prog w A κ vs) (fun p s'' => s''.heap = h' ∧
        ∀ h'' c, h''.get? a = some (seqObj "list" (List.toArray (p.toList.map fun i => vs.getD i Value.none)) c) → Heap.SameBut a h' h'' → P (.done (.ret .none)) { s'' with heap := h'' }) s') (fun _ _ => False) { s with heap := h' }) :
    wpAny (model prog w) A (Builtin.«list.sort» ⟨[.ref a], []⟩) P E s := by
  have ha : a < s.heap.objs.size := Heap.lt_size ho
  have s1 := Heap.SameBut.update s.heap a (Obj.mapSeq fun _ => (#[] : Array Value))
  obtain ⟨e1, ho1⟩ : ∃ e1, (s.heap.update a (Obj.mapSeq fun _ => (#[] : Array Value))).get? a = some (seqObj "list" #[] e1) := ⟨_, get?_update_seq ho fun _ => #[]⟩
  rw [list_sort_plain]
  refine wpAny_bind (listItems_at ho rfl ?_)
  refine wpAny_bind (listUpdate_at ho rfl ?_ (by rw [List.size_toArray, sizeLine_eq]; (first | lia | omega)) (Nat.zero_le _))
  refine wpAny_bind (seqEpoch_at ho1 rfl ?_)
  refine wpAny_bind (wpAny_newTuple ?_ (by show vs.length ≤ _; rw [sizeLine_eq]; (first | lia | omega)))
  refine wpAny_bind (wpAny_newList ?_ (Nat.zero_le _))
  refine wpAny_holding ?_
  have sz : s.heap.objs.size ≤ (((s.heap.update a (Obj.mapSeq fun _ => (#[] : Array Value))).push (seqObj "tuple" vs.toArray 0)).push (seqObj "list" #[] 0)).objs.size := by
    rw [Heap.size_push, Heap.size_push, s1.1]; (first | lia | omega)
  have kp : ∀ b o, b ≠ a → s.heap.get? b = some o → (((s.heap.update a (Obj.mapSeq fun _ => (#[] : Array Value))).push (seqObj "tuple" vs.toArray 0)).push (seqObj "list" #[] 0)).get? b = some o := fun b o nb e =>
    Heap.get?_push_of_some _ (Heap.get?_push_of_some _ ((s1.2 b nb).trans e))
  have ga : (((s.heap.update a (Obj.mapSeq fun _ => (#[] : Array Value))).push (seqObj "tuple" vs.toArray 0)).push (seqObj "list" #[] 0)).get? a = some (seqObj "list" #[] e1) := Heap.get?_push_of_some _ (Heap.get?_push_of_some _ ho1)
  show wpAny (model prog w) A _ P E { s with heap := ((s.heap.update a (Obj.mapSeq fun _ => (#[] : Array Value))).push (seqObj "tuple" vs.toArray 0)).push (seqObj "list" #[] 0) }
  generalize ((s.heap.update a (Obj.mapSeq fun _ => (#[] : Array Value))).push (seqObj "tuple" vs.toArray 0)).push (seqObj "list" #[] 0) = h' at sz kp ga ⊢
  have ask := h h' kp sz
  have hn2 : ¬ vs.toArray.size < 2 := by rw [List.size_toArray]; (first | lia | omega)
  rw [if_neg hn2, if_neg hn2]
  refine wpAny_bind (wpAny_mono ask (fun κ s0 hk => ?_) fun _ _ x => x.elim)
  refine wpAny_bind (wpAny_mono (kat_run (Q := fun st' s' => ∃ p : Array Nat, p.size = vs.length ∧ arrOf st' = p.map (kas_item (vs.toArray.zip vs.toArray)) ∧ failedOf st' = none ∧ s'.heap = h' ∧
      ∀ h'' c, h''.get? a = some (seqObj "list" (List.toArray (p.toList.map fun i => vs.getD i Value.none)) c) → Heap.SameBut a h' h'' → P (.done (.ret .none)) { s' with heap := h'' })
    rfl h2 h64 (fun p' st' s' a1 a2 a3 a4 => ⟨p', a1, a2, a3, a4⟩) hk) ?_ fun _ _ e => e)
  rintro ⟨⟨⟩, st'⟩ s' ⟨p, hp, har, hf, hh, k⟩
  dsimp only
  have na : s'.heap.get? a = some (seqObj "list" #[] e1) := hh ▸ ga
  have hout := kat_snds rfl har
  have hsz : (List.toArray (p.toList.map fun i => vs.getD i Value.none)).size = vs.length := by rw [List.size_toArray, List.length_map, Array.length_toList, hp]
  rw [hout]
  have s2 := Heap.SameBut.update s'.heap a (Obj.mapSeq fun _ => List.toArray (p.toList.map fun i => vs.getD i Value.none))
  obtain ⟨c2, hc2⟩ : ∃ c2, (s'.heap.update a (Obj.mapSeq fun _ => List.toArray (p.toList.map fun i => vs.getD i Value.none))).get? a = some (seqObj "list" (List.toArray (p.toList.map fun i => vs.getD i Value.none)) c2) := ⟨_, get?_update_seq na fun _ => List.toArray (p.toList.map fun i => vs.getD i Value.none)⟩
  refine wpAny_bind (seqEpoch_at na rfl ?_)
  refine wpAny_bind (listUpdate_at na rfl ?_ (Nat.zero_le _) (Nat.le_trans (Nat.le_of_eq hsz) (by rw [sizeLine_eq]; (first | lia | omega))))
  rw [hf]
  simp only [bne_self_eq_false, Bool.false_eq_true, if_false]
  exact wpAny_pure (k _ c2 hc2 (hh ▸ s2))
theorem my_sorted {l : Addr} {Q : Value → Shared → Prop} (hl : s.heap.IsList l vs.toArray) (h2 : 2 ≤ vs.length) (h64 : vs.length < 64)
    (h : ∀ D h', (∀ b o, s.heap.get? b = some o → h'.get? b = some o) → s.heap.objs.size ≤ D → D < h'.objs.size → s.heap.objs.size ≤ h'.objs.size →
      wpAny (model prog w) A.in1.in1 (keyKind' vs.toArray) (fun κ s' => (kas_sort vs.length).kasWp (kas_ask prog w A.in1.in1 κ vs) (fun p s'' => s''.heap = h' ∧
        ∀ h'' c, h''.get? D = some (seqObj "list" (List.toArray (p.toList.map fun i => vs.getD i Value.none)) c) → Heap.SameBut D h' h'' → Q (.ref D) { s'' with heap := h'' }) s') (fun _ _ => False) { s with heap := h' }) :
    wpAny (model prog w) A (call (.builtin "sorted") [.ref l]) Q E s := by
  refine Calls.call_function_entry kind_sorted plain_sorted entry_sorted (args_sorted1 _) ?_
  unfold Builtin.«sorted»
  refine wpAny_bind (m := checkCount "sorted" 1 1 _) (wpAny_pure ?_)
  refine wpAny_bind (collect_list hl ?_ (by rw [sizeLine_eq]; (first | lia | omega)))
  refine wpAny_bind (wpAny_newList ?_ (by rw [sizeLine_eq]; (first | lia | omega)))
  have hsz : ((s.heap.push (seqObj "list" #[] 0)).update s.heap.objs.size (Obj.mapSeq (· ++ vs.toArray))).objs.size = s.heap.objs.size + 1 := by
    rw [upd_size, size_push']
  have hoL : (((s.heap.push (seqObj "list" #[] 0)).update s.heap.objs.size (Obj.mapSeq (· ++ vs.toArray))).push (seqObj "list" vs.toArray 0)).get? (s.heap.objs.size + 1) = some (seqObj "list" vs.toArray 0) := by
    rw [← hsz]; exact Heap.get?_push_size _ rfl
  have keep : ∀ b o, s.heap.get? b = some o → (((s.heap.push (seqObj "list" #[] 0)).update s.heap.objs.size (Obj.mapSeq (· ++ vs.toArray))).push (seqObj "list" vs.toArray 0)).get? b = some o := fun b o q => by
    have hlt : b < s.heap.objs.size := Heap.lt_size q
    exact Heap.get?_push_of_some _ (((Heap.SameBut.update _ s.heap.objs.size _).2 b (Nat.ne_of_lt hlt)).trans (Heap.get?_push_of_some _ q))
  have hsz2 : (((s.heap.push (seqObj "list" #[] 0)).update s.heap.objs.size (Obj.mapSeq (· ++ vs.toArray))).push (seqObj "list" vs.toArray 0)).objs.size = s.heap.objs.size + 2 := by rw [Heap.size_push, hsz]
  show wpAny _ _ _ _ _ { s with heap := ((s.heap.push (seqObj "list" #[] 0)).update s.heap.objs.size (Obj.mapSeq (· ++ vs.toArray))).push (seqObj "list" vs.toArray 0) }
  rw [hsz]
  generalize ((s.heap.push (seqObj "list" #[] 0)).update s.heap.objs.size (Obj.mapSeq (· ++ vs.toArray))).push (seqObj "list" vs.toArray 0) = h1 at hoL keep hsz2 ⊢
  refine wpAny_bind (wpAny_holding (wpAny_call_entry slot_list_sort ⟨_, hoL, rfl⟩ entry_list_sort ?body (args_list_sort _)))
  case body =>
    refine my_list_sort (s := { s with heap := h1 }) hoL h2 h64 fun h' kp sz => ?_
    dsimp only at kp sz
    refine wpAny_mono (h (s.heap.objs.size + 1) h' (fun b o e => kp b o (Nat.ne_of_lt (Nat.lt_succ_of_lt (Heap.lt_size e))) (keep b o e)) (Nat.le_succ _) (by (first | lia | omega)) (by (first | lia | omega))) (fun κ s' hk => ?_) fun _ _ x => x
    rw [kat_ask_eq rfl] at hk ⊢
    exact kas_wp_mono hk fun p s'' hk' => ⟨hk'.1, fun h'' c g hs => ⟨_, rfl, wpAny_pure ⟨_, rfl, hk'.2 h'' c g hs⟩⟩⟩
end
section
variable {prog : Program} {w : World} {h₁ : Heap} {T : Txt}
theorem tup_at {x : Nat} {H : CH} {l : List Int} {ρ : List Addr} {v : Value} {h : Heap} (e : H[x]? = some (.tup (intL l))) (S : SR h₁ T ρ H h) (vx : VR ρ (.loc x) v) :
    ∃ (a : Addr) (ys : List (Int × Tok)) (n : Nat), v = .ref a ∧ h.get? a = some { cls := .type "tuple", data := .seq (List.toArray (ys.map fun (p : Int × Tok) => Value.int p.1 p.2)) n } ∧ ys.map (·.1) = l := by
  obtain ⟨a, ea, rfl⟩ := vx
  obtain ⟨us, k, gu, ru⟩ := S.obj _ _ a e ea
  obtain ⟨ys, rfl, rfl⟩ := ints_items ru
  exact ⟨a, ys, k, rfl, gu, rfl⟩
theorem cons_of {ys : List (Int × Tok)} {a : Int} {l : List Int} (h : ys.map (·.1) = a :: l) : ∃ p r, ys = p :: r := by
  cases ys with
  | nil => cases h
  | cons p r => exact ⟨p, r, rfl⟩
theorem bi_sorted : BiOK prog w h₁ T .sorted (.builtin "sorted") := by
  intro A as vals H H' v ρ s Q e hh hd hu S vs p
  cases e with
  | @sorted n x y z k0 k1 k2 l0 l1 l2 _ hn t0 t1 t2 hc =>
  obtain ⟨c1, c2, n1, n2, n3⟩ := hc
  obtain - | ⟨⟨a, ea, rfl⟩, vn⟩ := vs
  cases vn
  obtain ⟨us, k, gu, ru⟩ := S.obj _ _ a hn ea
  obtain - | ⟨vx, - | ⟨vy, - | ⟨vz, rn⟩⟩⟩ := ru
  cases rn
  obtain ⟨a0, y0, m0, rfl, g0, z0⟩ := tup_at t0 S vx
  obtain ⟨a1, y1, m1, rfl, g1, z1⟩ := tup_at t1 S vy
  obtain ⟨a2, y2, m2, rfl, g2, z2⟩ := tup_at t2 S vz
  obtain ⟨⟨i0, u0⟩, y0', rfl⟩ := cons_of z0
  obtain ⟨⟨i1, u1⟩, y1', rfl⟩ := cons_of z1
  obtain ⟨⟨i2, u2⟩, y2', rfl⟩ := cons_of z2
  have e0 : ((i0, u0) :: y0').length = l0.length + 1 := by rw [← List.length_map (·.1), z0]; rfl
  have e1 : ((i1, u1) :: y1').length = l1.length + 1 := by rw [← List.length_map (·.1), z1]; rfl
  have e2 : ((i2, u2) :: y2').length = l2.length + 1 := by rw [← List.length_map (·.1), z2]; rfl
  have x1 := lex_total (a := k0 :: l0) (b := k1 :: l1) (congrArg (· + 1) c1) n1
  have x3 := lex_total (a := k1 :: l1) (b := k2 :: l2) (congrArg (· + 1) (c1.symm.trans c2)) n3
  refine my_sorted (vs := [.ref a0, .ref a1, .ref a2]) ⟨_, gu, rfl, _, rfl⟩ (Nat.le_of_ble_eq_true rfl) (Nat.le_of_ble_eq_true rfl) fun D h' kp hD hlt hsz => ?_
  have g0' := kp _ _ g0
  have g1' := kp _ _ g1
  have g2' := kp _ _ g2
  refine kat_kind (vs := [.ref a0, .ref a1, .ref a2]) (fs := [.int i0 u0, .int i1 u1, .int i2 u2]) (T := .type "int") (.cons g0' rfl rfl rfl (.cons g1' rfl rfl rfl (.cons g2' rfl rfl rfl .nil))) (Nat.le_of_ble_eq_true rfl) (fun v hv => ?_) rfl ?_
  · obtain _ | ⟨_, _ | ⟨_, _ | ⟨_, hv⟩⟩⟩ := hv
    iterate 3 exact .now
    cases hv
  · refine krun_wp (fun i j b C hb hC => ?_) (kas_sort 3) (sort3 (k0 :: l0) (k1 :: l1) (k2 :: l2)) ⟨rfl, fun h'' c g hs => ?_⟩
    · unfold kas_ask
      refine tab3_at hb (fun hi hj he => ?_) (fun hi hj he => ?_) (fun hi hj he => ?_) (fun hi hj he => ?_) fun hi hj he => ?_ <;> subst hi hj he
      · exact tup_lt g1' g0' (by (first | lia | omega)) (by rw [z0, z1]; exact hC)
      · exact tup_lt g2' g1' (by (first | lia | omega)) (by rw [z2, z1]; exact hC)
      · exact tup_lt g2' g0' (by (first | lia | omega)) (by rw [z0, z2]; exact hC)
      · exact tup_lt g0' g1' (by (first | lia | omega)) (by rw [z0, z1, x1]; exact hC)
      · exact tup_lt g1' g2' (by (first | lia | omega)) (by rw [z2, z1, x3]; exact hC)
    · have kp2 : ∀ b o, s.heap.get? b = some o → h''.get? b = some o := fun b o e => (hs.2 b (Nat.ne_of_lt (Nat.lt_of_lt_of_le (Heap.lt_size e) hD))).trans (kp b o e)
      have sz2 : s.heap.objs.size ≤ h''.objs.size := by rw [hs.1]; exact hsz
      have S2 := S.keeps (h' := h'') (fun a o g _ => kp2 a o g) sz2
      have nb : D ∉ ρ := fun m => absurd (S.lt m) (Nat.not_lt.mpr hD)
      have hi : 110 ≤ D := Nat.le_trans S.size hD
      have S3 := S2.add (o := .list (order3 (k0 :: l0) (k1 :: l1) (k2 :: l2) (.loc x) (.loc y) (.loc z))) nb hi (fun z => nomatch z) ⟨_, c, g, VRs.mono (List.prefix_append _ _) (ρ := ρ) ?_⟩
      · refine p _ _ h'' s.toks ⟨List.prefix_append _ _, fun a m => ?_, sz2, fun a o g _ _ _ => kp2 a o g⟩ S3 ⟨_, S.at_new _, rfl⟩
        rcases List.mem_append.mp m with m | m
        · exact .inl m
        · rw [List.mem_singleton.mp m]; exact .inr hD
      · unfold perm3 order3
        split
        · split
          · exact .cons vz (.cons vy (.cons vx .nil))
          · split
            · exact .cons vy (.cons vz (.cons vx .nil))
            · exact .cons vy (.cons vx (.cons vz .nil))
        · split
          · split
            · exact .cons vz (.cons vx (.cons vy .nil))
            · exact .cons vx (.cons vz (.cons vy .nil))
          · exact .cons vx (.cons vy (.cons vz .nil))
end
end Mine
end

section
set_option maxRecDepth 100000
set_option linter.unusedVariables false
set_option linter.unusedSectionVars false
set_option autoImplicit false
namespace Mine
open PySem PySem.W PyProof.Rows PySem.SeqAt
section
variable {prog : Program} {w : World} {A : Around} {E : Value → Shared → Prop} {h : Heap} {g : Array GenState} {d : Drawn} {t : Nat} {os : OsState}
variable {nm q : Str} {C N : Addr} {bs : List Value} {sn : List Str} {sub : List Value} {col : Option Bool} {dd : Option Addr} {k0 k1 k2 k3 k5 : Option Value}
/-- an own class with an __init__ called: where the new things lie -/
theorem made_call {mN : Str → Option Value} {rest : List Value} {fI : Addr} {oI : Obj} {Q : Value → Shared → Prop}
    (hC : h.get? C = some (excClassObj nm q C N bs [.type "object"] true sn sub false col dd k0 k1 k2 k3 k5 "object.__new__")) (hn : h.Ns N mN) (hi : mN "__init__" = some (.ref fI))
    (hfI : h.get? fI = some oI) (hfc : oI.cls = .type "function")
    (hq : wpAny (model prog w) (A.under (.builtin "type.__call__" ⟨.ref C :: rest, []⟩)) (call (.ref fI) (.ref (h.objs.size + 1) :: rest)) (fun r s' => r = .none ∧ Q (.ref (h.objs.size + 1)) s') E
      ⟨(h.push { cls := .type "dict", data := .dict #[] }).push { cls := .ref C, dict := some h.objs.size, data := .plain }, g, d, t, os⟩) :
    wpAny (model prog w) A (call (.ref C) rest) Q E ⟨h, g, d, t, os⟩ := by
  have f1 := tc_lookup
  have f2 := tc_bind (.ref C)
  have hT : (⟨h, g, d, t, os⟩ : Shared).TypeIs (.ref C) "type" := ⟨_, hC, rfl⟩
  refine wpAny_call (codeAny_of_tree ?_)
  show wpAny _ _ (callAny (.ref C) _) _ _ _
  repeat (any_goals (first | assumption | with_reducible refine wpAny_loadPart_at hC ?_ | wp_step))
  refine ⟨rfl, ?_⟩
  refine codeAny_call_builtin_at (Code.quiet_builtin _ (by decide +kernel)) entry_typeCall (wpAny_check_type_call_sub hC ?_)
  have hmro : mroOf (.type "object") = pure [.type "object"] := by kernel_rfl
  have hlk : typeLookup (.type "object") "__init__" = pure (some (.builtin "object.__init__")) := by rw [typeLookup_type, builtinLookup_eq_fast]; kernel_rfl
  have K := PySem.F.objNew
  repeat (first | with_reducible refine wpAny_loadPart_at hC ?_ | with_reducible refine wpAny_madeBy_exc hC ?_ | wp_step)
  refine codeAny_call_builtin_code (Code.quiet_builtin _ K.quiet) (wpAny_check_obj_new K hC ?_)
  refine codeAny_obj_new K hC hn hi ?_
  show wpAny _ _ _ _ _ _
  have up : ∀ b o, h.get? b = some o → ((h.push { cls := .type "dict", data := .dict #[] }).push { cls := .ref C, dict := some h.objs.size, data := .plain }).get? b = some o := fun b o e => Heap.get?_push_of_some _ (Heap.get?_push_of_some _ e)
  have hget : ((h.push { cls := .type "dict", data := .dict #[] }).push { cls := .ref C, dict := some h.objs.size, data := .plain }).get? (h.objs.size + 1) = some { cls := .ref C, dict := some h.objs.size, data := .plain } := by
    rw [← Heap.size_push h { cls := .type "dict", data := .dict #[] }]; exact Heap.get?_push_size _ rfl
  have hC₁ := up _ _ hC
  have hfI₁ := up _ _ hfI
  have hn₁ := hn.at fun o e => up N o e
  have hcC : (Value.ref C :: [Value.type "object"]).contains (.ref C) = true := by simp
  unfold isInstance
  repeat (first | with_reducible refine wpAny_loadPart_at hget ?_ | (with_reducible refine wpAny_isSubtype_exc hC₁ ?_; rw [hcC]) | wp_step)
  show wpAny _ _ (typeLookup (.ref C) _) _ _ _
  refine wpAny_typeLookup_exc hC₁ hn₁ hmro hlk ?_
  rw [hi]
  refine wpAny_holding (wpAny_bind ?_)
  unfold bindSpecial
  refine wpAny_bind (wpAny_typeOf (T := "function") ⟨_, hfI₁, hfc⟩ ?_)
  rw [if_pos (by decide)]
  refine wpAny_pure (wpAny_bind (wpAny_mono hq (fun r s' hr => ?_) fun _ _ x => x))
  obtain ⟨rfl, hQ⟩ := hr
  wp_walk
  exact hQ
end
end Mine
end

section
set_option maxRecDepth 100000
set_option linter.unusedVariables false
set_option linter.unusedSectionVars false
set_option autoImplicit false
namespace Mine
open PySem PySem.W PyProof.Rows PySem.SeqAt
structure InitOk (h₁ : Heap) (mN : Str → Option Value) (f : Fn) : Prop where
  at_ : mN "__init__" = some (.ref f.addr)
  fo : FnObj h₁ f
  cls : ∃ o, h₁.get? f.addr = some o ∧ o.cls = .type "function"
  body : ∃ p1 p2 p3 p4, f.body = [.Assign [.Attribute (.Name "self" p1) "comp_select_list" p2] (.Name "comp_select_list" p3) p4]
  ps : f.args.args.map (·.arg) = [("self" : Str), ("comp_select_list" : Str)]
  k1 : f.scope.names.lookup ("self" : Str) = some NameKind.local
  k2 : f.scope.names.lookup ("comp_select_list" : Str) = some NameKind.local
  nc : ∀ x ∈ f.scope.names, x.2 ≠ .cell
theorem newCells_none : ∀ {l : List (Str × NameKind)} {cs : List (Str × Nat)} {H : CH}, (∀ x ∈ l, x.2 ≠ .cell) → newCells l cs H = (cs, H)
  | [], _, _, _ => rfl
  | (n, k) :: r, cs, H, h => by
    have hk : k ≠ .cell := h (n, k) (.head _)
    unfold newCells
    rw [if_neg hk]
    exact newCells_none fun x m => h x (.tail _ m)
section
variable {h₁ : Heap} {T : Txt} {ρ : List Addr} {H : CH} {h h' : Heap}
/-- two followed things changed -/
theorem SR.put2 (S : SR h₁ T ρ H h) {n m : Nat} {o o' p p' : CO} {a b : Addr} (en : H[n]? = some o) (ea : ρ[n]? = some a) (em : H[m]? = some p) (eb : ρ[m]? = some b) (hn : n ≠ 0) (hm : m ≠ 0) (hnm : n ≠ m)
    (c1 : o ≠ .code) (c2 : o' ≠ .code) (c3 : p ≠ .code) (c4 : p' ≠ .code) (k : ∀ c ob, c ≠ a → c ≠ b → h.get? c = some ob → h'.get? c = some ob) (z : h.objs.size ≤ h'.objs.size) (ra : OR T ρ h' o' a) (rb : OR T ρ h' p' b) :
    SR h₁ T ρ ((H.set n o').set m p') h' := by
  have ha := S.high n a ea hn
  have hb := S.high m b eb hm
  have ln := (List.getElem?_eq_some_iff.mp en).1
  have lm := (List.getElem?_eq_some_iff.mp em).1
  refine ⟨by rw [List.length_set, List.length_set]; exact S.len, S.nd, S.zero, S.high, fun i x c e' f' => ?_, fun c o q e' => k c o (fun y => ?_) (fun y => ?_) (S.low c o q e'), ?_, Nat.le_trans S.size z, S.base⟩
  · by_cases h1 : i = m
    · subst h1
      rw [eb] at f'; cases f'
      rw [List.getElem?_set_self (by rw [List.length_set]; exact lm)] at e'
      cases e'; exact rb
    · rw [List.getElem?_set_ne (Ne.symm h1)] at e'
      by_cases h2 : i = n
      · subst h2
        rw [ea] at f'; cases f'
        rw [List.getElem?_set_self ln] at e'
        cases e'; exact ra
      · rw [List.getElem?_set_ne (Ne.symm h2)] at e'
        exact (S.obj i x c e' f').at fun ob q => k c ob (fun y => h2 (S.inj f' (y ▸ ea))) (fun y => h1 (S.inj f' (y ▸ eb))) q
  · have lt := Heap.lt_size e'
    rw [S.base.1, y] at lt
    exact absurd lt (Nat.not_lt.mpr ha)
  · have lt := Heap.lt_size e'
    rw [S.base.1, y] at lt
    exact absurd lt (Nat.not_lt.mpr hb)
  · have t := S.tab
    unfold TabOk at t ⊢
    have e1 : (H.set n o')[m]? = some p := by rw [List.getElem?_set_ne hnm]; exact em
    rw [SR.codeAt_set _ m p p' 0 e1 c3 c4, SR.codeAt_set H n o o' 0 en c1 c2]
    have n1 : (91 : Addr) ≠ a := Nat.ne_of_lt (Nat.lt_of_lt_of_le (by decide) ha)
    have n2 : (91 : Addr) ≠ b := Nat.ne_of_lt (Nat.lt_of_lt_of_le (by decide) hb)
    split at t
    · exact k _ _ n1 n2 t
    · obtain ⟨c, e, q⟩ := t
      exact ⟨c, e, k _ _ n1 n2 q⟩
end
section
variable {prog : Program} {w : World} {h₁ : Heap} {T : Txt} {mg mb mN : Str → Option Value}
theorem bi_comp (B : Bs h₁ T mg mb) (C : ClBase h₁ T mN) {f : Fn} (I : InitOk h₁ mN f) : BiOK prog w h₁ T .comp (.ref 38) := by
  intro A as vals H H' v ρ s Q e hh hd hu S vs p
  obtain ⟨n, rfl, rfl, rfl⟩ : ∃ n, as = [.loc n] ∧ v = .loc (H.length + 1) ∧ H' = H ++ [.idict (some n), .inst H.length] := by cases e with | comp => exact ⟨_, rfl, rfl, rfl⟩
  clear e
  obtain - | ⟨⟨la, el, rfl⟩, vn⟩ := vs
  cases vn
  obtain ⟨hp, gens, drawn, toks, os⟩ := s
  have K := cls_here C S
  obtain ⟨nm, q, bs, sn, sub, col, dd, k0, k1, k2, k3, k5, gC⟩ := K.obj
  obtain ⟨oI, gI, hfc⟩ := I.cls
  refine made_call (h := hp) gC K.ns I.at_ (S.low _ _ I.fo.ne gI) hfc ?_
  have S1 := (S.push { cls := .type "dict", data := .dict #[] }).push { cls := .ref 38, dict := some hp.objs.size, data := .plain }
  have st1 : Stp [] ρ hp ρ ((hp.push { cls := .type "dict", data := .dict #[] }).push { cls := .ref 38, dict := some hp.objs.size, data := .plain }) := (Stp.push (X := []) ..).trans (Stp.push (X := []) ..) fun _ m => nomatch m
  have gx : ((hp.push { cls := .type "dict", data := .dict #[] }).push { cls := .ref 38, dict := some hp.objs.size, data := .plain }).get? (hp.objs.size + 1) = some { cls := .ref 38, dict := some hp.objs.size, data := .plain } := by
    rw [← Heap.size_push hp { cls := .type "dict", data := .dict #[] }]; exact Heap.get?_push_size _ rfl
  have gd : ((hp.push { cls := .type "dict", data := .dict #[] }).push { cls := .ref 38, dict := some hp.objs.size, data := .plain }).get? hp.objs.size = some { cls := .type "dict", data := .dict #[] } :=
    Heap.get?_push_of_some _ (Heap.get?_push_size _ rfl)
  have nsd : ((hp.push { cls := .type "dict", data := .dict #[] }).push { cls := .ref 38, dict := some hp.objs.size, data := .plain }).Ns1 hp.objs.size fun _ => none := Heap.Ns1.of_empty ⟨_, #[], _, gd, rfl, fun e he => absurd he (by simp), fun _ => rfl⟩
  generalize (hp.push { cls := .type "dict", data := .dict #[] }).push { cls := .ref 38, dict := some hp.objs.size, data := .plain } = h0 at S1 st1 gx gd nsd ⊢
  have nd : hp.objs.size ∉ ρ := fun m => absurd (S.lt m) (Nat.lt_irrefl _)
  have Sd := S1.add (o := .idict none) nd S.size (by intro z; cases z) nsd
  have nx : hp.objs.size + 1 ∉ ρ ++ [hp.objs.size] := fun m => by
    rcases List.mem_append.mp m with m | m
    · exact absurd (S.lt m) (by simp)
    · have := List.mem_singleton.mp m; (first | lia | omega)
  have ed : (ρ ++ [hp.objs.size])[H.length]? = some hp.objs.size := S1.at_new _
  have Sx := Sd.add (o := .inst H.length) nx (Nat.le_succ_of_le S.size) (by intro z; cases z) ⟨hp.objs.size, _, pre_get (List.prefix_append _ _) ed, gx, rfl, rfl, (fun c z => nomatch z), by simp⟩
  have ex : (ρ ++ [hp.objs.size] ++ [hp.objs.size + 1])[H.length + 1]? = some (hp.objs.size + 1) := by
    have := Sd.at_new (hp.objs.size + 1)
    simpa using this
  have pre2 : ρ <+: ρ ++ [hp.objs.size] ++ [hp.objs.size + 1] := (List.prefix_append _ _).trans (List.prefix_append _ _)
  obtain ⟨o, fd, g, hdt, q1, q2, q3, q4, q5, q6, q7, q8, q9⟩ := I.fo.obj
  obtain ⟨p1, p2, p3, p4, hbody⟩ := I.body
  have hlen : f.args.args.length = 2 := by rw [← List.length_map (·.arg), I.ps]; rfl
  have hlim := hd
  refine wpAny_call (codeAny_call_function (Nat.lt_of_le_of_lt (by show A.depth + 1 ≤ 501; (first | lia | omega)) (by decide)) (S1.low _ _ I.fo.ne g) hdt (by rw [q1]; exact I.fo.co) (by rw [q1]; exact I.fo.gen) q2 (SR.codeRec (s := ⟨h0, gens, drawn, toks, os⟩) S1 q8 q4 I.fo.nc) ?_)
  rw [q9 _ (by rw [hlen]; rfl), q1, q6, q3, q5, q4, q7]
  refine wpAny_pure ?_
  have ncs := newCells_none (cs := []) (H := H ++ [.idict none] ++ [.inst H.length]) I.nc
  refine newEnv_call (s := ⟨h0, gens, drawn, toks, os⟩) (cs := []) (cl := []) (as := [.loc (H.length + 1), .loc n]) (lv := 0) (L' := [("self", .loc (H.length + 1)), ("comp_select_list", .loc n)]) (H' := H ++ [.idict none] ++ [.inst H.length]) I.fo.scope Sx (fun x n z => by cases z)
    (.cons (c := .loc (H.length + 1)) ⟨_, ex, rfl⟩ (.cons (c := .loc n) ⟨_, pre_get pre2 el, rfl⟩ .nil)) (fun _ => rfl) ?_ fun ρ3 env h3 t3 hl3 st3 S3 R3 l3 => ⟨?_, codeAny_func ?_⟩
  · rw [ncs, I.ps]
    simp [bindAll, setName, kindIn, I.k1, I.k2, CL.set]
    decide
  · obtain ⟨mc, n, q⟩ := B.lim
    exact ⟨mc, SR.ns (s := ⟨h3, gens, drawn, t3, os⟩) S3 n (by decide), q⟩
  · rw [hbody]
    rw [ncs] at R3
    replace R3 : ER ρ3 ⟨f.scope, [], 0, f.code, f.qual ++ ".<locals>."⟩ env := R3
    refine wpAny_mono (?_ : wpAny (model prog w) _ (execs _ env) _ Fx _) (fun _ _ q => q) fun _ _ q => q.elim
    have k1 : kindIn ⟨f.scope, [], 0, f.code, f.qual ++ ".<locals>."⟩ "self" = some .local := I.k1
    have k2 : kindIn ⟨f.scope, [], 0, f.code, f.qual ++ ".<locals>."⟩ "comp_select_list" = some .local := I.k2
    refine wpAny_execs_cons (wpAny_Assign_stores (wpAny_Name (nm_load (s := ⟨h3, gens, drawn, t3, os⟩) (x := "comp_select_list") (v := .loc n) B (by unfold getName; rw [k2]; rfl) S3 R3 l3 fun y vy => ?_) (R3.ne k2 R3.nodbg)) rfl rfl)
    obtain ⟨la', el', rfl⟩ := vy
    have hla : la' = la := by
      have := pre_get st3.pre (pre_get pre2 el)
      rw [el'] at this
      cases this; rfl
    subst hla
    show wpAny (model prog w) _ (assign (.Attribute (.Name "self" p1) "comp_select_list" p2) env (.ref la')) _ _ _
    rw [arm_assign_Attribute]
    refine wpAny_bind (wpAny_holding (wpAny_Name (nm_load (s := ⟨h3, gens, drawn, t3, os⟩) (x := "self") (v := .loc (H.length + 1)) B (by unfold getName; rw [k1]; rfl) S3 R3 l3 fun z vz => ?_) (R3.ne k1 R3.nodbg)))
    obtain ⟨xa, exa, rfl⟩ := vz
    have hxa : xa = hp.objs.size + 1 := by
      have := pre_get st3.pre ex
      rw [exa] at this
      cases this; rfl
    subst hxa
    have ed3 := pre_get st3.pre (pre_get (List.prefix_append _ [hp.objs.size + 1]) ed)
    have hdl : (H ++ [CO.idict none] ++ [CO.inst H.length])[H.length]? = some (.idict none) := by simp
    have hxl : (H ++ [CO.idict none] ++ [CO.inst H.length])[H.length + 1]? = some (.inst H.length) := by
      have := List.getElem?_append_right (l₁ := H ++ [CO.idict none]) (l₂ := [CO.inst H.length]) (i := H.length + 1) (by simp)
      rw [this]; simp
    obtain ⟨da', ob, ed', gob, hcl, hdi, hnc, hne⟩ := S3.obj _ _ _ hxl exa
    have hda : da' = hp.objs.size := by rw [ed3] at ed'; cases ed'; rfl
    subst hda
    have ns3 : h3.Ns1 hp.objs.size (fun _ => none) := S3.obj _ _ _ hdl ed3
    have K3 := cls_here (s := ⟨h3, gens, drawn, t3, os⟩) C S3
    obtain ⟨nm, q, bs, sn, sub, col, dd, k0, k1, k2, k3, k5, gC3⟩ := K3.obj
    have xC : hp.objs.size + 1 ≠ 38 := by have : 110 ≤ hp.objs.size := S.size; show hp.objs.size + 1 ≠ 38; (first | lia | omega)
    refine wpAny_bind (wpAny_standAt (wpAny_bind (wpAny_holding (wpAny_grow (store_attr (h := h3) (ns := []) PySem.F.store_object gC3 K3.ns C.sa C.fld obj_no_fld xC ⟨ob, gob, hcl, hnc, .inr ⟨_, hdi, hne, ns3⟩⟩ (fun h4 t4 I4 kp4 same gz => rel_ok ?_) Within.nil)))))
    have kp : ∀ b o, b ≠ hp.objs.size + 1 → b ≠ hp.objs.size → h3.get? b = some o → h4.get? b = some o := fun b o n1 n2 e => kp4 b o n1 (fun o₀ dx e0 e1 => by
      rw [gob] at e0; cases e0; rw [hdi] at e1; cases e1; exact n2) e
    obtain ⟨o1, e1, c1, d1, s1, z1⟩ := same _ gob
    obtain ⟨o1', e1', _, hnc4, hd4⟩ := I4
    rw [e1] at e1'
    cases e1'
    have hd1 := z1 _ hdi
    have ns4 : h4.Ns1 hp.objs.size (fun y => if y = ("comp_select_list" : Str) then some (.ref la') else none) := by
      rcases hd4 with ⟨hn0, _⟩ | ⟨d', hd', _, hns'⟩
      · rw [hd1] at hn0; cases hn0
      · rw [hd1] at hd'; cases hd'; exact hns'
    refine wpAny_execs_nil ?_
    refine ⟨rfl, ?_⟩
    have hHpos : 0 < H.length := by rw [← S.len]; exact (List.getElem?_eq_some_iff.mp S.zero).1
    have sz34 : h3.objs.size ≤ h4.objs.size := gz
    have S4 := S3.put2 (h' := h4) (o' := .idict (some n)) (p' := .inst H.length) hdl ed3 hxl exa (by (first | lia | omega)) (by (first | lia | omega)) (by (first | lia | omega)) (by intro z; cases z) (by intro z; cases z) (by intro z; cases z) (by intro z; cases z)
      (fun c ob n1 n2 e => kp c ob n2 n1 e) sz34 ⟨la', el', ns4⟩ ⟨hp.objs.size, o1, ed3, e1, c1.trans hcl, hd1, hnc4, by simp⟩
    have hH : ((H ++ [CO.idict none] ++ [CO.inst H.length]).set H.length (.idict (some n))).set (H.length + 1) (.inst H.length) = H ++ [.idict (some n), .inst H.length] := by simp
    rw [hH] at S4
    refine p ρ3 _ h4 t4 ⟨pre2.trans st3.pre, fun a m => ?_, Nat.le_trans st1.size (Nat.le_trans st3.size sz34), fun a o e n1 n2 _ => ?_⟩ S4 ⟨_, exa, rfl⟩
    · rcases st3.fresh a m with m | m
      · rcases List.mem_append.mp m with m | m
        · rcases List.mem_append.mp m with m | m
          · exact .inl m
          · rw [List.mem_singleton.mp m]; exact .inr (Nat.le_refl _)
        · rw [List.mem_singleton.mp m]; exact .inr (Nat.le_succ _)
      · exact .inr (Nat.le_trans st1.size m)
    · have lt : a < hp.objs.size := Heap.lt_size e
      have e0 := st1.keep a o e n1 n2 (fun m => nomatch m)
      have e3 := st3.keep a o e0 (fun m => by
        rcases List.mem_append.mp m with m | m
        · rcases List.mem_append.mp m with m | m
          · exact n1 m
          · rw [List.mem_singleton.mp m] at lt; exact Nat.lt_irrefl _ lt
        · rw [List.mem_singleton.mp m] at lt; exact absurd lt (Nat.not_lt.mpr (Nat.le_succ _))) n2 (fun m => nomatch m)
      exact kp a o (Nat.ne_of_lt (Nat.lt_succ_of_lt lt)) (Nat.ne_of_lt lt) e3
end
end Mine
end

section
set_option maxRecDepth 100000
set_option linter.unusedVariables false
set_option linter.unusedSectionVars false
set_option autoImplicit false
namespace Mine
open PySem PySem.W PyProof.Rows PySem.SeqAt
/-- all that the base must hold -/
structure Base (prog : Program) (w : World) (h₁ : Heap) (T : Txt) (mg mb mN : Str → Option Value) : Prop where
  b2 : Bs2 prog w h₁ T mg mb
  lb : LamBase h₁ mg
  cl : ClBase h₁ T mN
  zip : mg "zip" = some (.type "zip") ∨ (mg "zip" = none ∧ mb "zip" = some (.type "zip"))
section
variable {prog : Program} {w : World} {h₁ : Heap} {T : Txt} {mg mb mN : Str → Option Value} {A : Around} {ρ : List Addr} {E : CE} {L : CL} {H Hm H1 H' : CH} {env : Env} {s : Shared} {v u x : CV} {vs : List CV} {Q : Value → Shared → Prop}
end
end Mine
end

section
set_option maxRecDepth 100000
set_option linter.unusedVariables false
set_option autoImplicit false
namespace Mine
open PySem PySem.W PyProof.Rows
noncomputable def dumFn : Fn := ⟨0, 0, "", ⟨[], [], none, [], [], none, []⟩, [], { kind := .function, names := [], isGenerator := false, isCoroutine := false }⟩
noncomputable def dumX : Expr := .Name "" ⟨0, 0, 0, 0⟩
/-- a statement's expressions, its block, a def's own parts -/
noncomputable def stAll : Stmt → List Expr × List Stmt × Arguments × Scope
  | .FunctionDef _ args b _ _ _ scope _ _ _ => ([], b, args, scope)
  | .ClassDef _ _ _ b _ _ _ _ _ _ _ => ([], b, dumFn.args, dumFn.scope)
  | .Return o _ => (o.toList, [], dumFn.args, dumFn.scope)
  | .Assign _ e _ => ([e], [], dumFn.args, dumFn.scope)
  | .For t e b _ _ => ([t, e], b, dumFn.args, dumFn.scope)
  | .While t b _ _ => ([t], b, dumFn.args, dumFn.scope)
  | .If t b _ _ => ([t], b, dumFn.args, dumFn.scope)
  | .Expr e _ => ([e], [], dumFn.args, dumFn.scope)
  | _ => ([], [], dumFn.args, dumFn.scope)
/-- an expression's parts -/
noncomputable def exAll : Expr → List Expr × List Comprehension × Scope × Arguments × Pos
  | .Call _ as _ p => (as, [], dumFn.scope, dumFn.args, p)
  | .Lambda a b s p => ([b], [], s, a, p)
  | .Compare l _ rs p => (l :: rs, [], dumFn.scope, dumFn.args, p)
  | .BinOp l _ r p => ([l, r], [], dumFn.scope, dumFn.args, p)
  | .ListComp e gs s p => ([e], gs, s, dumFn.args, p)
  | .DictComp _ e gs s p => ([e], gs, s, dumFn.args, p)
  | _ => ([], [], dumFn.scope, dumFn.args, ⟨0, 0, 0, 0⟩)
noncomputable def fnS (qual : Str) (addr code : Nat) (s : Stmt) : Fn := ⟨addr, code, qual, (stAll s).2.2.1, (stAll s).2.1, (stAll s).2.2.2⟩
noncomputable def stAt (n : Nat) : Stmt := (PySem.Challenge.pw_pe0120_01.main.body).getD n (.Pass ⟨0, 0, 0, 0⟩)
noncomputable def clsBody (s : Stmt) : List Stmt := (stAll s).2.1
noncomputable def iniF : Fn := fnS "TupleComp.__init__" 28 27 ((clsBody (stAt 1)).getD 0 (.Pass ⟨0, 0, 0, 0⟩))
noncomputable def cmpF : Fn := fnS "TupleComp.compare" 35 34 ((clsBody (stAt 1)).getD 1 (.Pass ⟨0, 0, 0, 0⟩))
noncomputable def addF : Fn := fnS "add_callers" 49 48 (stAt 2)
noncomputable def cntF : Fn := fnS "count_calls" 56 55 (stAt 3)
noncomputable def splF : Fn := fnS "_split_list" 63 62 (stAt 5)
noncomputable def subF : Fn := fnS "_substitution_cost" 70 69 (stAt 10)
noncomputable def levF : Fn := fnS "_levenshtein_distance" 77 76 (stAt 11)
noncomputable def priF : Fn := fnS "_law_price" 84 83 (stAt 13)
noncomputable def farF : Fn := fnS "_law_far" 89 88 (stAt 14)
noncomputable def fstF : Fn := fnS "_law_first" 96 95 (stAt 15)
noncomputable def stbF : Fn := fnS "_law_stable" 103 102 (stAt 16)
noncomputable def lawF : Fn := fnS "law" 108 107 (stAt 17)
noncomputable def theT : Txt := ⟨[("add_callers", addF), ("count_calls", cntF), ("_split_list", splF), ("_substitution_cost", subF), ("_levenshtein_distance", levF), ("_law_price", priF), ("_law_far", farF), ("_law_first", fstF), ("_law_stable", stbF), ("law", lawF)],
  [("_MAX_STRING_SIZE", 40), ("_MOVE_COST", 2), ("_CASE_COST", 1)], cmpF⟩
noncomputable def shw1 : Option CV → String | some (.bool b) => toString b | some (.int i) => toString i | some _ => "?" | none => "none"
end Mine
end

section
set_option maxRecDepth 100000
set_option linter.unusedVariables false
set_option linter.unusedSectionVars false
set_option autoImplicit false
namespace Mine
open PySem PySem.W PyProof.Rows PySem.SeqAt
theorem ns_val {h : Heap} {a : Addr} {m : Str → Option Value} {o : Obj} {es : Array DictEntry} {ep : Nat} (n : h.Ns a m) (g : h.get? a = some o) (hd : o.data = .dict es ep) (x : Str) {v : Option Value} (e : nsFind es x = v) : m x = v := by
  obtain ⟨o', es', ep', g', hd', _, f⟩ := n
  rw [g] at g'
  cases g'
  rw [hd] at hd'
  cases hd'
  rw [← f x, e]
noncomputable def strKeysB (es : List DictEntry) : Bool := es.all fun e => match e.key with
  | .str _ _ => true
  | _ => false
theorem ns_made {h : Heap} {a : Addr} {o : Obj} {es : Array DictEntry} {ep : Nat} (g : h.get? a = some o) (hd : o.data = .dict es ep) (k : strKeysB es.toList = true) : h.Ns a (nsFind es) := by
  refine ⟨o, es, ep, g, hd, fun e m => ?_, fun x => rfl⟩
  have := List.all_eq_true.mp k e (by simpa using m)
  revert this
  cases e.key <;> intro this <;> first | exact ⟨_, _, rfl⟩ | cases this
noncomputable def fdAt (K : Frag) (a : Addr) : Option FuncData := match K.lookup a with
  | some o => match o.data with
    | .func fd => some fd
    | _ => none
  | none => none
theorem fdAt_get {K : Frag} {h : Heap} (KX : K.In h) {a : Addr} {fd : FuncData} (e : fdAt K a = some fd) : ∃ o, h.get? a = some o ∧ o.data = .func fd := by
  unfold fdAt at e
  split at e
  · rename_i o ho
    split at e
    · rename_i fd' hd
      cases e
      exact ⟨o, KX _ _ ho, hd⟩
    · cases e
  · cases e
noncomputable def qualAt (K : Frag) (c : Addr) : Option Value := match K.lookup c with
  | some o => match o.data with
    | .fields vs => vs[1]?
    | _ => none
  | none => none
theorem codeRec_of {K : Frag} {h : Heap} (KX : K.In h) {c : Addr} {q : Str} {t : Tok} (e : qualAt K c = some (.str q t)) : h.CodeRec (.ref c) q := by
  unfold qualAt at e
  split at e
  · rename_i o ho
    split at e
    · rename_i vs hd
      exact ⟨c, o, vs, t, rfl, KX _ _ ho, hd, e⟩
    · cases e
  · cases e
noncomputable def plainArgs (a : Arguments) : Bool := a.posonlyargs.isEmpty && a.vararg.isNone && a.kwonlyargs.isEmpty && a.kwarg.isNone
theorem fnObj_of {K : Frag} {h : Heap} (KX : K.In h) {f : Fn} {fd : FuncData} {t : Tok} (e : fdAt K f.addr = some fd) (e1 : fd.scope = f.scope) (e2 : fd.body = .stmts f.body) (e3 : fd.closure = []) (e4 : fd.code = .ref f.code) (e5 : fd.qualname = f.qual) (e6 : fd.globals = mainGlobals) (e7 : fd.builtins = builtinsNs)
    (c : qualAt K f.code = some (.str f.qual t)) (b : ∀ vals : List Value, vals.length = f.args.args.length → bindArgs fd ⟨vals, []⟩ = pure ((f.args.args.map (·.arg)).zip vals))
    (s : okScope f.scope = true) (s1 : f.scope.isCoroutine = false) (s2 : f.scope.isGenerator = false) (n1 : f.addr ≠ 91) (n2 : f.code ≠ 91) : FnObj h f := by
  obtain ⟨o, g, hd⟩ := fdAt_get KX e
  exact ⟨⟨o, fd, g, hd, e1, e2, e3, e4, e5, e6, e7, by rw [e4, e5]; exact codeRec_of KX c, b⟩, s, s1, s2, n1, n2⟩
theorem vals0 {f : List Value → Prop} {n : Nat} (hn : n = 0) (h : f []) : ∀ vals : List Value, vals.length = n → f vals
  | [], _ => h
  | _ :: _, e => by rw [hn] at e; simp at e
theorem vals1 {f : List Value → Prop} {n : Nat} (hn : n = 1) (h : ∀ a, f [a]) : ∀ vals : List Value, vals.length = n → f vals
  | [], e => by rw [hn] at e; simp at e
  | [a], _ => h a
  | _ :: _ :: _, e => by rw [hn] at e; simp at e
theorem vals2 {f : List Value → Prop} {n : Nat} (hn : n = 2) (h : ∀ a b, f [a, b]) : ∀ vals : List Value, vals.length = n → f vals
  | [], e => by rw [hn] at e; simp at e
  | [a], e => by rw [hn] at e; simp at e
  | [a, b], _ => h a b
  | _ :: _ :: _ :: _, e => by rw [hn] at e; simp at e
theorem vals3 {f : List Value → Prop} {n : Nat} (hn : n = 3) (h : ∀ a b c, f [a, b, c]) : ∀ vals : List Value, vals.length = n → f vals
  | [], e => by rw [hn] at e; simp at e
  | [a], e => by rw [hn] at e; simp at e
  | [a, b], e => by rw [hn] at e; simp at e
  | [a, b, c], _ => h a b c
  | _ :: _ :: _ :: _ :: _, e => by rw [hn] at e; simp at e
/-- what stood stays, but for the code table -/
theorem oldK_of {h₁ h : Heap} {T : Txt} {ρ : List Addr} {H : CH} (S : SR h₁ T ρ H h) (t : h₁.TableAt 95 91 #[]) : OldK h₁ h := by
  have g91 := t.2
  have tab := S.tab
  unfold TabOk at tab
  split at tab
  · refine .of_keep fun b o e => ?_
    by_cases hb : b = 91
    · subst hb
      rw [g91] at e; cases e
      exact tab
    · exact S.low b o hb e
  · obtain ⟨c, _, tab⟩ := tab
    refine ⟨fun b o e => ?_, fun b o e => ?_⟩
    · by_cases hb : b = 91
      · subst hb
        rw [g91] at e; cases e
        exact .inr (.inl ⟨t.isCodeTable, rfl, #[], #[rawInt 104, rawInt 29, .ref c], rfl, by simpa using tab⟩)
      · exact .inl (S.low b o hb e)
    · by_cases hb : b = 91
      · subst hb; exact ⟨_, tab⟩
      · exact ⟨o, S.low b o hb e⟩
/-- the law, run -/
theorem run_law {prog : Program} {w : World} {s₁ : Shared} {mg mb mN : Str → Option Value} {script : List Int} {vals : List Value} {m : Nat} {H' : CH} {Q : Value → Shared → Prop}
    (K : Base prog w s₁.heap theT mg mb mN) (hsz : s₁.heap.objs.size = 110) (g91 : s₁.heap.get? 91 = some { cls := .none, data := .fields #[] })
    (hl : s₁.heap.get? 109 = some { cls := .type "list", data := .seq (List.toArray vals) m }) (hi : IntsAre vals script) (hA : OkA 7 callerA)
    (hlaw : FnS prog w s₁.heap theT lawF 7 [.loc 0] [.list (script.map .int)] (.bool true) H')
    (q : ∀ ρ H h tk, SR s₁.heap theT ρ H h → Q (.bool true) { s₁ with heap := h, toks := tk }) : wpAny (model prog w) callerA (call (.ref 108) [.ref 109]) Q Fx s₁ := by
  have S : SR s₁.heap theT [109] [.list (script.map .int)] s₁.heap := by
    refine ⟨rfl, List.pairwise_singleton .., rfl, fun n a e z => ?_, fun n o a e f => ?_, fun _ _ _ e => e, g91, by (first | lia | omega), hsz, _, hl⟩
    · cases n with
      | zero => exact absurd rfl z
      | succ n => cases e
    · cases n with
      | zero =>
        cases e; cases f
        refine ⟨vals, m, hl, ?_⟩
        clear hl hlaw
        induction hi with
        | nil => exact .nil
        | cons => rename_i ih; exact .cons ⟨_, rfl⟩ ih
      | succ n => cases e
  have hlk : theT.fns.lookup ("law" : Str) = some lawF := rfl
  refine hlaw (K.b2.fns _ lawF hlk).toFnObj hA S (.cons (c := .loc 0) ⟨109, rfl, rfl⟩ .nil) fun ρ' x h' tk st S' vx => ?_
  cases vx
  exact q ρ' _ h' tk S'
end Mine
end

section
set_option maxRecDepth 100000
set_option maxHeartbeats 0
namespace Mine
open PySem
/-- the program, its words written out -/
noncomputable def pwS : Program := by
  refine (?f : PySem.Challenge.pw_pe0120_01 = ?p → Program) ?h
  case h =>
    unfold PySem.Challenge.pw_pe0120_01
    simp only [
    show Str.ofString "" = Str.mk (Array.mk []) from rfl,
    show Str.ofString ".0" = Str.mk (Array.mk [nat_lit 46, nat_lit 48]) from rfl,
    show Str.ofString "A" = Str.mk (Array.mk [nat_lit 65]) from rfl,
    show Str.ofString "B" = Str.mk (Array.mk [nat_lit 66]) from rfl,
    show Str.ofString "TupleComp" = Str.mk (Array.mk [nat_lit 84, nat_lit 117, nat_lit 112, nat_lit 108, nat_lit 101, nat_lit 67, nat_lit 111, nat_lit 109, nat_lit 112]) from rfl,
    show Str.ofString "_CASE_COST" = Str.mk (Array.mk [nat_lit 95, nat_lit 67, nat_lit 65, nat_lit 83, nat_lit 69, nat_lit 95, nat_lit 67, nat_lit 79, nat_lit 83, nat_lit 84]) from rfl,
    show Str.ofString "_MAX_STRING_SIZE" = Str.mk (Array.mk [nat_lit 95, nat_lit 77, nat_lit 65, nat_lit 88, nat_lit 95, nat_lit 83, nat_lit 84, nat_lit 82, nat_lit 73, nat_lit 78, nat_lit 71, nat_lit 95, nat_lit 83, nat_lit 73, nat_lit 90, nat_lit 69]) from rfl,
    show Str.ofString "_MOVE_COST" = Str.mk (Array.mk [nat_lit 95, nat_lit 77, nat_lit 79, nat_lit 86, nat_lit 69, nat_lit 95, nat_lit 67, nat_lit 79, nat_lit 83, nat_lit 84]) from rfl,
    show Str.ofString "__init__" = Str.mk (Array.mk [nat_lit 95, nat_lit 95, nat_lit 105, nat_lit 110, nat_lit 105, nat_lit 116, nat_lit 95, nat_lit 95]) from rfl,
    show Str.ofString "__name__" = Str.mk (Array.mk [nat_lit 95, nat_lit 95, nat_lit 110, nat_lit 97, nat_lit 109, nat_lit 101, nat_lit 95, nat_lit 95]) from rfl,
    show Str.ofString "_law_far" = Str.mk (Array.mk [nat_lit 95, nat_lit 108, nat_lit 97, nat_lit 119, nat_lit 95, nat_lit 102, nat_lit 97, nat_lit 114]) from rfl,
    show Str.ofString "_law_first" = Str.mk (Array.mk [nat_lit 95, nat_lit 108, nat_lit 97, nat_lit 119, nat_lit 95, nat_lit 102, nat_lit 105, nat_lit 114, nat_lit 115, nat_lit 116]) from rfl,
    show Str.ofString "_law_price" = Str.mk (Array.mk [nat_lit 95, nat_lit 108, nat_lit 97, nat_lit 119, nat_lit 95, nat_lit 112, nat_lit 114, nat_lit 105, nat_lit 99, nat_lit 101]) from rfl,
    show Str.ofString "_law_stable" = Str.mk (Array.mk [nat_lit 95, nat_lit 108, nat_lit 97, nat_lit 119, nat_lit 95, nat_lit 115, nat_lit 116, nat_lit 97, nat_lit 98, nat_lit 108, nat_lit 101]) from rfl,
    show Str.ofString "_levenshtein_distance" = Str.mk (Array.mk [nat_lit 95, nat_lit 108, nat_lit 101, nat_lit 118, nat_lit 101, nat_lit 110, nat_lit 115, nat_lit 104, nat_lit 116, nat_lit 101, nat_lit 105, nat_lit 110, nat_lit 95, nat_lit 100, nat_lit 105, nat_lit 115, nat_lit 116, nat_lit 97, nat_lit 110, nat_lit 99, nat_lit 101]) from rfl,
    show Str.ofString "_split_list" = Str.mk (Array.mk [nat_lit 95, nat_lit 115, nat_lit 112, nat_lit 108, nat_lit 105, nat_lit 116, nat_lit 95, nat_lit 108, nat_lit 105, nat_lit 115, nat_lit 116]) from rfl,
    show Str.ofString "_substitution_cost" = Str.mk (Array.mk [nat_lit 95, nat_lit 115, nat_lit 117, nat_lit 98, nat_lit 115, nat_lit 116, nat_lit 105, nat_lit 116, nat_lit 117, nat_lit 116, nat_lit 105, nat_lit 111, nat_lit 110, nat_lit 95, nat_lit 99, nat_lit 111, nat_lit 115, nat_lit 116]) from rfl,
    show Str.ofString "a" = Str.mk (Array.mk [nat_lit 97]) from rfl,
    show Str.ofString "add_callers" = Str.mk (Array.mk [nat_lit 97, nat_lit 100, nat_lit 100, nat_lit 95, nat_lit 99, nat_lit 97, nat_lit 108, nat_lit 108, nat_lit 101, nat_lit 114, nat_lit 115]) from rfl,
    show Str.ofString "ahead" = Str.mk (Array.mk [nat_lit 97, nat_lit 104, nat_lit 101, nat_lit 97, nat_lit 100]) from rfl,
    show Str.ofString "append" = Str.mk (Array.mk [nat_lit 97, nat_lit 112, nat_lit 112, nat_lit 101, nat_lit 110, nat_lit 100]) from rfl,
    show Str.ofString "asked" = Str.mk (Array.mk [nat_lit 97, nat_lit 115, nat_lit 107, nat_lit 101, nat_lit 100]) from rfl,
    show Str.ofString "asks" = Str.mk (Array.mk [nat_lit 97, nat_lit 115, nat_lit 107, nat_lit 115]) from rfl,
    show Str.ofString "b" = Str.mk (Array.mk [nat_lit 98]) from rfl,
    show Str.ofString "bchar" = Str.mk (Array.mk [nat_lit 98, nat_lit 99, nat_lit 104, nat_lit 97, nat_lit 114]) from rfl,
    show Str.ofString "best" = Str.mk (Array.mk [nat_lit 98, nat_lit 101, nat_lit 115, nat_lit 116]) from rfl,
    show Str.ofString "bindex" = Str.mk (Array.mk [nat_lit 98, nat_lit 105, nat_lit 110, nat_lit 100, nat_lit 101, nat_lit 120]) from rfl,
    show Str.ofString "caller" = Str.mk (Array.mk [nat_lit 99, nat_lit 97, nat_lit 108, nat_lit 108, nat_lit 101, nat_lit 114]) from rfl,
    show Str.ofString "callers" = Str.mk (Array.mk [nat_lit 99, nat_lit 97, nat_lit 108, nat_lit 108, nat_lit 101, nat_lit 114, nat_lit 115]) from rfl,
    show Str.ofString "calls" = Str.mk (Array.mk [nat_lit 99, nat_lit 97, nat_lit 108, nat_lit 108, nat_lit 115]) from rfl,
    show Str.ofString "ch_a" = Str.mk (Array.mk [nat_lit 99, nat_lit 104, nat_lit 95, nat_lit 97]) from rfl,
    show Str.ofString "ch_b" = Str.mk (Array.mk [nat_lit 99, nat_lit 104, nat_lit 95, nat_lit 98]) from rfl,
    show Str.ofString "comp_select_list" = Str.mk (Array.mk [nat_lit 99, nat_lit 111, nat_lit 109, nat_lit 112, nat_lit 95, nat_lit 115, nat_lit 101, nat_lit 108, nat_lit 101, nat_lit 99, nat_lit 116, nat_lit 95, nat_lit 108, nat_lit 105, nat_lit 115, nat_lit 116]) from rfl,
    show Str.ofString "compare" = Str.mk (Array.mk [nat_lit 99, nat_lit 111, nat_lit 109, nat_lit 112, nat_lit 97, nat_lit 114, nat_lit 101]) from rfl,
    show Str.ofString "count_calls" = Str.mk (Array.mk [nat_lit 99, nat_lit 111, nat_lit 117, nat_lit 110, nat_lit 116, nat_lit 95, nat_lit 99, nat_lit 97, nat_lit 108, nat_lit 108, nat_lit 115]) from rfl,
    show Str.ofString "cpy313.pstats" = Str.mk (Array.mk [nat_lit 99, nat_lit 112, nat_lit 121, nat_lit 51, nat_lit 49, nat_lit 51, nat_lit 46, nat_lit 112, nat_lit 115, nat_lit 116, nat_lit 97, nat_lit 116, nat_lit 115]) from rfl,
    show Str.ofString "cpy313.pydoc" = Str.mk (Array.mk [nat_lit 99, nat_lit 112, nat_lit 121, nat_lit 51, nat_lit 49, nat_lit 51, nat_lit 46, nat_lit 112, nat_lit 121, nat_lit 100, nat_lit 111, nat_lit 99]) from rfl,
    show Str.ofString "cpy313.traceback" = Str.mk (Array.mk [nat_lit 99, nat_lit 112, nat_lit 121, nat_lit 51, nat_lit 49, nat_lit 51, nat_lit 46, nat_lit 116, nat_lit 114, nat_lit 97, nat_lit 99, nat_lit 101, nat_lit 98, nat_lit 97, nat_lit 99, nat_lit 107]) from rfl,
    show Str.ofString "dear" = Str.mk (Array.mk [nat_lit 100, nat_lit 101, nat_lit 97, nat_lit 114]) from rfl,
    show Str.ofString "dearest" = Str.mk (Array.mk [nat_lit 100, nat_lit 101, nat_lit 97, nat_lit 114, nat_lit 101, nat_lit 115, nat_lit 116]) from rfl,
    show Str.ofString "direction" = Str.mk (Array.mk [nat_lit 100, nat_lit 105, nat_lit 114, nat_lit 101, nat_lit 99, nat_lit 116, nat_lit 105, nat_lit 111, nat_lit 110]) from rfl,
    show Str.ofString "distance" = Str.mk (Array.mk [nat_lit 100, nat_lit 105, nat_lit 115, nat_lit 116, nat_lit 97, nat_lit 110, nat_lit 99, nat_lit 101]) from rfl,
    show Str.ofString "draws" = Str.mk (Array.mk [nat_lit 100, nat_lit 114, nat_lit 97, nat_lit 119, nat_lit 115]) from rfl,
    show Str.ofString "extend" = Str.mk (Array.mk [nat_lit 101, nat_lit 120, nat_lit 116, nat_lit 101, nat_lit 110, nat_lit 100]) from rfl,
    show Str.ofString "fast" = Str.mk (Array.mk [nat_lit 102, nat_lit 97, nat_lit 115, nat_lit 116]) from rfl,
    show Str.ofString "free" = Str.mk (Array.mk [nat_lit 102, nat_lit 114, nat_lit 101, nat_lit 101]) from rfl,
    show Str.ofString "func" = Str.mk (Array.mk [nat_lit 102, nat_lit 117, nat_lit 110, nat_lit 99]) from rfl,
    show Str.ofString "held" = Str.mk (Array.mk [nat_lit 104, nat_lit 101, nat_lit 108, nat_lit 100]) from rfl,
    show Str.ofString "i" = Str.mk (Array.mk [nat_lit 105]) from rfl,
    show Str.ofString "index" = Str.mk (Array.mk [nat_lit 105, nat_lit 110, nat_lit 100, nat_lit 101, nat_lit 120]) from rfl,
    show Str.ofString "insert_delete" = Str.mk (Array.mk [nat_lit 105, nat_lit 110, nat_lit 115, nat_lit 101, nat_lit 114, nat_lit 116, nat_lit 95, nat_lit 100, nat_lit 101, nat_lit 108, nat_lit 101, nat_lit 116, nat_lit 101]) from rfl,
    show Str.ofString "isinstance" = Str.mk (Array.mk [nat_lit 105, nat_lit 115, nat_lit 105, nat_lit 110, nat_lit 115, nat_lit 116, nat_lit 97, nat_lit 110, nat_lit 99, nat_lit 101]) from rfl,
    show Str.ofString "items" = Str.mk (Array.mk [nat_lit 105, nat_lit 116, nat_lit 101, nat_lit 109, nat_lit 115]) from rfl,
    show Str.ofString "j" = Str.mk (Array.mk [nat_lit 106]) from rfl,
    show Str.ofString "keys" = Str.mk (Array.mk [nat_lit 107, nat_lit 101, nat_lit 121, nat_lit 115]) from rfl,
    show Str.ofString "l" = Str.mk (Array.mk [nat_lit 108]) from rfl,
    show Str.ofString "law" = Str.mk (Array.mk [nat_lit 108, nat_lit 97, nat_lit 119]) from rfl,
    show Str.ofString "law_pe0120_01" = Str.mk (Array.mk [nat_lit 108, nat_lit 97, nat_lit 119, nat_lit 95, nat_lit 112, nat_lit 101, nat_lit 48, nat_lit 49, nat_lit 50, nat_lit 48, nat_lit 95, nat_lit 48, nat_lit 49]) from rfl,
    show Str.ofString "left" = Str.mk (Array.mk [nat_lit 108, nat_lit 101, nat_lit 102, nat_lit 116]) from rfl,
    show Str.ofString "len" = Str.mk (Array.mk [nat_lit 108, nat_lit 101, nat_lit 110]) from rfl,
    show Str.ofString "list" = Str.mk (Array.mk [nat_lit 108, nat_lit 105, nat_lit 115, nat_lit 116]) from rfl,
    show Str.ofString "lower" = Str.mk (Array.mk [nat_lit 108, nat_lit 111, nat_lit 119, nat_lit 101, nat_lit 114]) from rfl,
    show Str.ofString "mates" = Str.mk (Array.mk [nat_lit 109, nat_lit 97, nat_lit 116, nat_lit 101, nat_lit 115]) from rfl,
    show Str.ofString "max" = Str.mk (Array.mk [nat_lit 109, nat_lit 97, nat_lit 120]) from rfl,
    show Str.ofString "max_cost" = Str.mk (Array.mk [nat_lit 109, nat_lit 97, nat_lit 120, nat_lit 95, nat_lit 99, nat_lit 111, nat_lit 115, nat_lit 116]) from rfl,
    show Str.ofString "min" = Str.mk (Array.mk [nat_lit 109, nat_lit 105, nat_lit 110]) from rfl,
    show Str.ofString "minimum" = Str.mk (Array.mk [nat_lit 109, nat_lit 105, nat_lit 110, nat_lit 105, nat_lit 109, nat_lit 117, nat_lit 109]) from rfl,
    show Str.ofString "more" = Str.mk (Array.mk [nat_lit 109, nat_lit 111, nat_lit 114, nat_lit 101]) from rfl,
    show Str.ofString "nc" = Str.mk (Array.mk [nat_lit 110, nat_lit 99]) from rfl,
    show Str.ofString "near" = Str.mk (Array.mk [nat_lit 110, nat_lit 101, nat_lit 97, nat_lit 114]) from rfl,
    show Str.ofString "nearest" = Str.mk (Array.mk [nat_lit 110, nat_lit 101, nat_lit 97, nat_lit 114, nat_lit 101, nat_lit 115, nat_lit 116]) from rfl,
    show Str.ofString "new_callers" = Str.mk (Array.mk [nat_lit 110, nat_lit 101, nat_lit 119, nat_lit 95, nat_lit 99, nat_lit 97, nat_lit 108, nat_lit 108, nat_lit 101, nat_lit 114, nat_lit 115]) from rfl,
    show Str.ofString "no" = Str.mk (Array.mk [nat_lit 110, nat_lit 111]) from rfl,
    show Str.ofString "one" = Str.mk (Array.mk [nat_lit 111, nat_lit 110, nat_lit 101]) from rfl,
    show Str.ofString "order" = Str.mk (Array.mk [nat_lit 111, nat_lit 114, nat_lit 100, nat_lit 101, nat_lit 114]) from rfl,
    show Str.ofString "pair" = Str.mk (Array.mk [nat_lit 112, nat_lit 97, nat_lit 105, nat_lit 114]) from rfl,
    show Str.ofString "parted" = Str.mk (Array.mk [nat_lit 112, nat_lit 97, nat_lit 114, nat_lit 116, nat_lit 101, nat_lit 100]) from rfl,
    show Str.ofString "place" = Str.mk (Array.mk [nat_lit 112, nat_lit 108, nat_lit 97, nat_lit 99, nat_lit 101]) from rfl,
    show Str.ofString "pop" = Str.mk (Array.mk [nat_lit 112, nat_lit 111, nat_lit 112]) from rfl,
    show Str.ofString "post" = Str.mk (Array.mk [nat_lit 112, nat_lit 111, nat_lit 115, nat_lit 116]) from rfl,
    show Str.ofString "pre" = Str.mk (Array.mk [nat_lit 112, nat_lit 114, nat_lit 101]) from rfl,
    show Str.ofString "predicate" = Str.mk (Array.mk [nat_lit 112, nat_lit 114, nat_lit 101, nat_lit 100, nat_lit 105, nat_lit 99, nat_lit 97, nat_lit 116, nat_lit 101]) from rfl,
    show Str.ofString "r" = Str.mk (Array.mk [nat_lit 114]) from rfl,
    show Str.ofString "range" = Str.mk (Array.mk [nat_lit 114, nat_lit 97, nat_lit 110, nat_lit 103, nat_lit 101]) from rfl,
    show Str.ofString "result" = Str.mk (Array.mk [nat_lit 114, nat_lit 101, nat_lit 115, nat_lit 117, nat_lit 108, nat_lit 116]) from rfl,
    show Str.ofString "right" = Str.mk (Array.mk [nat_lit 114, nat_lit 105, nat_lit 103, nat_lit 104, nat_lit 116]) from rfl,
    show Str.ofString "row" = Str.mk (Array.mk [nat_lit 114, nat_lit 111, nat_lit 119]) from rfl,
    show Str.ofString "rows" = Str.mk (Array.mk [nat_lit 114, nat_lit 111, nat_lit 119, nat_lit 115]) from rfl,
    show Str.ofString "s" = Str.mk (Array.mk [nat_lit 115]) from rfl,
    show Str.ofString "script" = Str.mk (Array.mk [nat_lit 115, nat_lit 99, nat_lit 114, nat_lit 105, nat_lit 112, nat_lit 116]) from rfl,
    show Str.ofString "self" = Str.mk (Array.mk [nat_lit 115, nat_lit 101, nat_lit 108, nat_lit 102]) from rfl,
    show Str.ofString "signs" = Str.mk (Array.mk [nat_lit 115, nat_lit 105, nat_lit 103, nat_lit 110, nat_lit 115]) from rfl,
    show Str.ofString "sorted" = Str.mk (Array.mk [nat_lit 115, nat_lit 111, nat_lit 114, nat_lit 116, nat_lit 101, nat_lit 100]) from rfl,
    show Str.ofString "source" = Str.mk (Array.mk [nat_lit 115, nat_lit 111, nat_lit 117, nat_lit 114, nat_lit 99, nat_lit 101]) from rfl,
    show Str.ofString "stable" = Str.mk (Array.mk [nat_lit 115, nat_lit 116, nat_lit 97, nat_lit 98, nat_lit 108, nat_lit 101]) from rfl,
    show Str.ofString "substitute" = Str.mk (Array.mk [nat_lit 115, nat_lit 117, nat_lit 98, nat_lit 115, nat_lit 116, nat_lit 105, nat_lit 116, nat_lit 117, nat_lit 116, nat_lit 101]) from rfl,
    show Str.ofString "sum" = Str.mk (Array.mk [nat_lit 115, nat_lit 117, nat_lit 109]) from rfl,
    show Str.ofString "table" = Str.mk (Array.mk [nat_lit 116, nat_lit 97, nat_lit 98, nat_lit 108, nat_lit 101]) from rfl,
    show Str.ofString "target" = Str.mk (Array.mk [nat_lit 116, nat_lit 97, nat_lit 114, nat_lit 103, nat_lit 101, nat_lit 116]) from rfl,
    show Str.ofString "told" = Str.mk (Array.mk [nat_lit 116, nat_lit 111, nat_lit 108, nat_lit 100]) from rfl,
    show Str.ofString "tuple" = Str.mk (Array.mk [nat_lit 116, nat_lit 117, nat_lit 112, nat_lit 108, nat_lit 101]) from rfl,
    show Str.ofString "two" = Str.mk (Array.mk [nat_lit 116, nat_lit 119, nat_lit 111]) from rfl,
    show Str.ofString "v" = Str.mk (Array.mk [nat_lit 118]) from rfl,
    show Str.ofString "values" = Str.mk (Array.mk [nat_lit 118, nat_lit 97, nat_lit 108, nat_lit 117, nat_lit 101, nat_lit 115]) from rfl,
    show Str.ofString "way" = Str.mk (Array.mk [nat_lit 119, nat_lit 97, nat_lit 121]) from rfl,
    show Str.ofString "ways" = Str.mk (Array.mk [nat_lit 119, nat_lit 97, nat_lit 121, nat_lit 115]) from rfl,
    show Str.ofString "where" = Str.mk (Array.mk [nat_lit 119, nat_lit 104, nat_lit 101, nat_lit 114, nat_lit 101]) from rfl,
    show Str.ofString "who" = Str.mk (Array.mk [nat_lit 119, nat_lit 104, nat_lit 111]) from rfl,
    show Str.ofString "words" = Str.mk (Array.mk [nat_lit 119, nat_lit 111, nat_lit 114, nat_lit 100, nat_lit 115]) from rfl,
    show Str.ofString "worst" = Str.mk (Array.mk [nat_lit 119, nat_lit 111, nat_lit 114, nat_lit 115, nat_lit 116]) from rfl,
    show Str.ofString "x" = Str.mk (Array.mk [nat_lit 120]) from rfl,
    show Str.ofString "y" = Str.mk (Array.mk [nat_lit 121]) from rfl,
    show Str.ofString "yes" = Str.mk (Array.mk [nat_lit 121, nat_lit 101, nat_lit 115]) from rfl,
    show Str.ofString "zip" = Str.mk (Array.mk [nat_lit 122, nat_lit 105, nat_lit 112]) from rfl]
    rfl
  case f => exact fun _ => ?p
theorem pwS_eq : PySem.Challenge.pw_pe0120_01 = pwS := by rfl
end Mine
end

section
open PySem PySem.W PySem.W.X PySem.W.ZRun PyProof.Rows
set_option Elab.async false
set_option maxRecDepth 100000
set_option maxHeartbeats 0
namespace Mine
/-- the top, run from the boot on: what the head asks, what we look at -/
theorem leftO_of {p q : Program} {loose : List Str} {Xt : Shared → Bool} {α : Type} {Yf : Shared → α} {Ya : World → α} {N : Nat} {g0 : Bool} {H₀ : Params → Heap} {gs₀ : Array GenState} {d₀ : Drawn} {k₀ : Nat} {m₀ : Nat} {ann : Option Value}
    (open_ : ∀ w : World, (fencedOpening treeTable p w N).map (fun s => (s.heap, s.gens, s.drawn, s.toks)) = some (H₀ w.params, gs₀, d₀, k₀))
    (size : ∀ w : World, ((H₀ w.params).isNs mainGlobals && gs₀.size == 0, (H₀ w.params).objs.size, (H₀ w.params).nsMap mainGlobals "__annotations__") = (true, m₀, ann))
    (run : ∀ (w : World) (os : OsState), (topRun treeTable p w m₀ ann N ⟨H₀ w.params, gs₀, d₀, k₀, os⟩ (topStub p)).map (fun s₁ =>
        ((staticsOk (importedModules p.main.body) (H₀ w.params) s₁.heap && namesBound p s₁.heap && gensDone s₁ && laidKept (H₀ w.params) s₁.heap), openSeen q loose (importedModules p.main.body) Xt g0 s₁, Yf s₁)) = some (true, openGood q loose, Ya w)) :
    LeftO p q loose Xt Yf Ya N g0 := fun w => by
  obtain ⟨⟨h, gs, d, k, os⟩, e, e'⟩ := Option.map_eq_some_iff.mp (open_ w)
  obtain ⟨rfl, rfl, rfl, rfl⟩ : h = H₀ w.params ∧ gs = gs₀ ∧ d = d₀ ∧ k = k₀ := by simpa using e'
  obtain ⟨z1, z2, z3⟩ : _ ∧ _ ∧ _ := by simpa only [Prod.mk.injEq] using size w
  obtain ⟨s₁, r, l⟩ := Option.map_eq_some_iff.mp (run w os)
  have l1 := congrArg Prod.fst l
  have t : topFrom treeTable p w N ⟨H₀ w.params, gs, d, k, os⟩ = some s₁ := by
    unfold topFrom
    dsimp only
    rw [z1, z2, z3, r]
    show (match staticsOk (importedModules p.main.body) (H₀ w.params) s₁.heap && namesBound p s₁.heap && gensDone s₁ && laidKept (H₀ w.params) s₁.heap with | true => _ | false => _) = _
    rw [show (staticsOk (importedModules p.main.body) (H₀ w.params) s₁.heap && namesBound p s₁.heap && gensDone s₁ && laidKept (H₀ w.params) s₁.heap) = true from l1]
  unfold openEnds
  rw [e]
  show (topFrom treeTable p w N _).map _ = _
  rw [t]
  exact congrArg some (congrArg Prod.snd l)
/-- the program's view, what the head asks of it -/
noncomputable def viewS : Program := PySem.W.view pwS [1, 2, 3, 5, 7, 8, 9, 10, 11, 13, 14, 15, 16, 17]
noncomputable def stM (n : Nat) : Stmt := (pwS.main.body).getD n (.Pass ⟨0, 0, 0, 0⟩)
noncomputable def w0 : Str := ⟨⟨[nat_lit 95, nat_lit 95, nat_lit 110, nat_lit 97, nat_lit 109, nat_lit 101, nat_lit 95, nat_lit 95]⟩⟩
noncomputable def w1 : Str := ⟨⟨[nat_lit 108, nat_lit 97, nat_lit 119, nat_lit 95, nat_lit 112, nat_lit 101, nat_lit 48, nat_lit 49, nat_lit 50, nat_lit 48, nat_lit 95, nat_lit 48, nat_lit 49]⟩⟩
noncomputable def w2 : Str := ⟨⟨[nat_lit 95, nat_lit 95, nat_lit 100, nat_lit 111, nat_lit 99, nat_lit 95, nat_lit 95]⟩⟩
noncomputable def w3 : Str := ⟨⟨[nat_lit 95, nat_lit 95, nat_lit 112, nat_lit 97, nat_lit 99, nat_lit 107, nat_lit 97, nat_lit 103, nat_lit 101, nat_lit 95, nat_lit 95]⟩⟩
noncomputable def w4 : Str := ⟨⟨[nat_lit 95, nat_lit 95, nat_lit 108, nat_lit 111, nat_lit 97, nat_lit 100, nat_lit 101, nat_lit 114, nat_lit 95, nat_lit 95]⟩⟩
noncomputable def w5 : Str := ⟨⟨[nat_lit 95, nat_lit 95, nat_lit 115, nat_lit 112, nat_lit 101, nat_lit 99, nat_lit 95, nat_lit 95]⟩⟩
noncomputable def w6 : Str := ⟨⟨[nat_lit 95, nat_lit 95, nat_lit 97, nat_lit 110, nat_lit 110, nat_lit 111, nat_lit 116, nat_lit 97, nat_lit 116, nat_lit 105, nat_lit 111, nat_lit 110, nat_lit 115, nat_lit 95, nat_lit 95]⟩⟩
noncomputable def w7 : Str := ⟨⟨[nat_lit 95, nat_lit 95, nat_lit 98, nat_lit 117, nat_lit 105, nat_lit 108, nat_lit 116, nat_lit 105, nat_lit 110, nat_lit 115, nat_lit 95, nat_lit 95]⟩⟩
noncomputable def w8 : Str := ⟨⟨[nat_lit 95, nat_lit 95, nat_lit 102, nat_lit 105, nat_lit 108, nat_lit 101, nat_lit 95, nat_lit 95]⟩⟩
noncomputable def w9 : Str := ⟨⟨[nat_lit 47, nat_lit 99, nat_lit 108, nat_lit 97, nat_lit 105, nat_lit 109, nat_lit 47, nat_lit 99, nat_lit 117, nat_lit 116, nat_lit 46, nat_lit 112, nat_lit 121]⟩⟩
noncomputable def w10 : Str := ⟨⟨[nat_lit 95, nat_lit 95, nat_lit 99, nat_lit 97, nat_lit 99, nat_lit 104, nat_lit 101, nat_lit 100, nat_lit 95, nat_lit 95]⟩⟩
noncomputable def w11 : Str := ⟨⟨[nat_lit 84, nat_lit 117, nat_lit 112, nat_lit 108, nat_lit 101, nat_lit 67, nat_lit 111, nat_lit 109, nat_lit 112]⟩⟩
noncomputable def w12 : Str := ⟨⟨[nat_lit 97, nat_lit 100, nat_lit 100, nat_lit 95, nat_lit 99, nat_lit 97, nat_lit 108, nat_lit 108, nat_lit 101, nat_lit 114, nat_lit 115]⟩⟩
noncomputable def w13 : Str := ⟨⟨[nat_lit 99, nat_lit 111, nat_lit 117, nat_lit 110, nat_lit 116, nat_lit 95, nat_lit 99, nat_lit 97, nat_lit 108, nat_lit 108, nat_lit 115]⟩⟩
noncomputable def w14 : Str := ⟨⟨[nat_lit 95, nat_lit 115, nat_lit 112, nat_lit 108, nat_lit 105, nat_lit 116, nat_lit 95, nat_lit 108, nat_lit 105, nat_lit 115, nat_lit 116]⟩⟩
noncomputable def w15 : Str := ⟨⟨[nat_lit 95, nat_lit 77, nat_lit 65, nat_lit 88, nat_lit 95, nat_lit 83, nat_lit 84, nat_lit 82, nat_lit 73, nat_lit 78, nat_lit 71, nat_lit 95, nat_lit 83, nat_lit 73, nat_lit 90, nat_lit 69]⟩⟩
noncomputable def w16 : Str := ⟨⟨[nat_lit 95, nat_lit 77, nat_lit 79, nat_lit 86, nat_lit 69, nat_lit 95, nat_lit 67, nat_lit 79, nat_lit 83, nat_lit 84]⟩⟩
noncomputable def w17 : Str := ⟨⟨[nat_lit 95, nat_lit 67, nat_lit 65, nat_lit 83, nat_lit 69, nat_lit 95, nat_lit 67, nat_lit 79, nat_lit 83, nat_lit 84]⟩⟩
noncomputable def w18 : Str := ⟨⟨[nat_lit 95, nat_lit 115, nat_lit 117, nat_lit 98, nat_lit 115, nat_lit 116, nat_lit 105, nat_lit 116, nat_lit 117, nat_lit 116, nat_lit 105, nat_lit 111, nat_lit 110, nat_lit 95, nat_lit 99, nat_lit 111, nat_lit 115, nat_lit 116]⟩⟩
noncomputable def w19 : Str := ⟨⟨[nat_lit 95, nat_lit 108, nat_lit 101, nat_lit 118, nat_lit 101, nat_lit 110, nat_lit 115, nat_lit 104, nat_lit 116, nat_lit 101, nat_lit 105, nat_lit 110, nat_lit 95, nat_lit 100, nat_lit 105, nat_lit 115, nat_lit 116, nat_lit 97, nat_lit 110, nat_lit 99, nat_lit 101]⟩⟩
noncomputable def w20 : Str := ⟨⟨[nat_lit 95, nat_lit 108, nat_lit 97, nat_lit 119, nat_lit 95, nat_lit 112, nat_lit 114, nat_lit 105, nat_lit 99, nat_lit 101]⟩⟩
noncomputable def w21 : Str := ⟨⟨[nat_lit 95, nat_lit 108, nat_lit 97, nat_lit 119, nat_lit 95, nat_lit 102, nat_lit 97, nat_lit 114]⟩⟩
noncomputable def w22 : Str := ⟨⟨[nat_lit 95, nat_lit 108, nat_lit 97, nat_lit 119, nat_lit 95, nat_lit 102, nat_lit 105, nat_lit 114, nat_lit 115, nat_lit 116]⟩⟩
noncomputable def w23 : Str := ⟨⟨[nat_lit 95, nat_lit 108, nat_lit 97, nat_lit 119, nat_lit 95, nat_lit 115, nat_lit 116, nat_lit 97, nat_lit 98, nat_lit 108, nat_lit 101]⟩⟩
noncomputable def w24 : Str := ⟨⟨[nat_lit 108, nat_lit 97, nat_lit 119]⟩⟩
noncomputable def w25 : Str := ⟨⟨[nat_lit 95, nat_lit 95, nat_lit 105, nat_lit 110, nat_lit 105, nat_lit 116, nat_lit 95, nat_lit 95]⟩⟩
noncomputable def w26 : Str := ⟨⟨[nat_lit 84, nat_lit 117, nat_lit 112, nat_lit 108, nat_lit 101, nat_lit 67, nat_lit 111, nat_lit 109, nat_lit 112, nat_lit 46, nat_lit 95, nat_lit 95, nat_lit 105, nat_lit 110, nat_lit 105, nat_lit 116, nat_lit 95, nat_lit 95]⟩⟩
noncomputable def w27 : Str := ⟨⟨[nat_lit 99, nat_lit 112, nat_lit 121, nat_lit 51, nat_lit 49, nat_lit 51, nat_lit 46, nat_lit 112, nat_lit 115, nat_lit 116, nat_lit 97, nat_lit 116, nat_lit 115]⟩⟩
noncomputable def w28 : Str := ⟨⟨[nat_lit 99, nat_lit 111, nat_lit 109, nat_lit 112, nat_lit 97, nat_lit 114, nat_lit 101]⟩⟩
noncomputable def w29 : Str := ⟨⟨[nat_lit 84, nat_lit 117, nat_lit 112, nat_lit 108, nat_lit 101, nat_lit 67, nat_lit 111, nat_lit 109, nat_lit 112, nat_lit 46, nat_lit 99, nat_lit 111, nat_lit 109, nat_lit 112, nat_lit 97, nat_lit 114, nat_lit 101]⟩⟩
noncomputable def w30 : Str := ⟨⟨[nat_lit 95, nat_lit 95, nat_lit 109, nat_lit 111, nat_lit 100, nat_lit 117, nat_lit 108, nat_lit 101, nat_lit 95, nat_lit 95]⟩⟩
noncomputable def w31 : Str := ⟨⟨[nat_lit 95, nat_lit 95, nat_lit 102, nat_lit 105, nat_lit 114, nat_lit 115, nat_lit 116, nat_lit 108, nat_lit 105, nat_lit 110, nat_lit 101, nat_lit 110, nat_lit 111, nat_lit 95, nat_lit 95]⟩⟩
noncomputable def w32 : Str := ⟨⟨[nat_lit 95, nat_lit 95, nat_lit 115, nat_lit 116, nat_lit 97, nat_lit 116, nat_lit 105, nat_lit 99, nat_lit 95, nat_lit 97, nat_lit 116, nat_lit 116, nat_lit 114, nat_lit 105, nat_lit 98, nat_lit 117, nat_lit 116, nat_lit 101, nat_lit 115, nat_lit 95, nat_lit 95]⟩⟩
noncomputable def w33 : Str := ⟨⟨[nat_lit 95, nat_lit 95, nat_lit 100, nat_lit 105, nat_lit 99, nat_lit 116, nat_lit 95, nat_lit 95]⟩⟩
noncomputable def w34 : Str := ⟨⟨[nat_lit 95, nat_lit 95, nat_lit 119, nat_lit 101, nat_lit 97, nat_lit 107, nat_lit 114, nat_lit 101, nat_lit 102, nat_lit 95, nat_lit 95]⟩⟩
noncomputable def w35 : Str := ⟨⟨[nat_lit 99, nat_lit 112, nat_lit 121, nat_lit 51, nat_lit 49, nat_lit 51, nat_lit 46, nat_lit 112, nat_lit 121, nat_lit 100, nat_lit 111, nat_lit 99]⟩⟩
noncomputable def w36 : Str := ⟨⟨[nat_lit 99, nat_lit 112, nat_lit 121, nat_lit 51, nat_lit 49, nat_lit 51, nat_lit 46, nat_lit 116, nat_lit 114, nat_lit 97, nat_lit 99, nat_lit 101, nat_lit 98, nat_lit 97, nat_lit 99, nat_lit 107]⟩⟩
noncomputable def fnOb (nm q : Str) (pm : Value) (code : Addr) : Stmt → Obj
  | .FunctionDef _ args b _ _ _ scope _ _ _ => { cls := .type "function", data := .func { name := nm, qualname := q, params := args, body := .stmts b, scope, globals := 3, closure := [], defaults := .none, kwdefaults := .none, pyModule := pm, code := .ref code } }
  | _ => { cls := .none }
noncomputable def cdOb (nm : Str) (a : Nat) (q : Str) (b : Nat) (f : Str) (c : Nat) (l n : Int) (r1 r2 : Nat) (v1 v2 : Value) (r3 : Nat) (y : Int) (d : Nat) : Obj := { cls := .type "code", data := .fields #[.str nm a, .str q b, .str f c, .int l 0, .int n 0, .int 0 0, .int 0 0, .int 3 0, .ref r1, .bool true, .int 181 0, .ref r2, .none, v1, v2, .ref r3, .int y 0, .int l 0, .str f d] }
noncomputable def enOb (P : Params) (k : Str) (t : Nat) (v : Value) : DictEntry := { hash := PySem.PyData.keyHash P k, key := .str k t, val := v }
noncomputable def topK (P : Params) : Frag := [
  (3, { cls := PySem.Value.type "dict", data := PySem.Data.dict #[enOb P w0 165 (PySem.Value.str w1 300), enOb P w2 166 (PySem.Value.none), enOb P w3 167 (PySem.Value.none), enOb P w4 168 (PySem.Value.builtin "__main__.__loader__#opaque"), enOb P w5 169 (PySem.Value.none), enOb P w6 170 (PySem.Value.ref 6), enOb P w7 171 (PySem.Value.ref 4), enOb P w8 173 (PySem.Value.str w9 172), enOb P w10 174 (PySem.Value.none), enOb P w11 230 (PySem.Value.ref 38), enOb P w12 241 (PySem.Value.ref 49), enOb P w13 250 (PySem.Value.ref 56), enOb P w14 263 (PySem.Value.ref 63), enOb P w15 267 (PySem.Value.int 40 266), enOb P w16 269 (PySem.Value.int 2 268), enOb P w17 271 (PySem.Value.int 1 270), enOb P w18 279 (PySem.Value.ref 70), enOb P w19 299 (PySem.Value.ref 77), enOb P w20 309 (PySem.Value.ref 84), enOb P w21 315 (PySem.Value.ref 89), enOb P w22 325 (PySem.Value.ref 96), enOb P w23 336 (PySem.Value.ref 103), enOb P w24 342 (PySem.Value.ref 108)] 23 }),
  (4, { cls := PySem.Value.type "module", dict := some 0 }),
  (27, cdOb w25 201 w26 202 w9 203 4 2 22 23 (PySem.Value.ref 24) (PySem.Value.ref 25) 26 206 207),
  (28, fnOb w25 w26 (.str w27 187) 27 ((clsBody (stM 1)).getD 0 (.Pass ⟨0, 0, 0, 0⟩))),
  (34, cdOb w28 209 w29 210 w9 211 7 3 29 30 (PySem.Value.ref 31) (PySem.Value.ref 32) 33 219 220),
  (35, fnOb w28 w29 (.str w27 187) 34 ((clsBody (stM 1)).getD 1 (.Pass ⟨0, 0, 0, 0⟩))),
  (37, { cls := PySem.Value.type "dict", data := PySem.Data.dict #[enOb P w30 196 (PySem.Value.str w27 187), enOb P w31 200 (PySem.Value.int 2 199), enOb P w25 208 (PySem.Value.ref 28), enOb P w28 221 (PySem.Value.ref 35), enOb P w32 223 (PySem.Value.ref 36), enOb P w33 225 (PySem.Value.ref 39), enOb P w34 227 (PySem.Value.ref 40), enOb P w2 228 (PySem.Value.none)] 4 }),
  (38, { cls := PySem.Value.type "type", data := PySem.Data.cls { name := w11, bases := [PySem.Value.type "object"], mro := [PySem.Value.ref 38, PySem.Value.type "object"], ns := 37, qualname := w11 }, slots := #[none, none, some (PySem.Value.str w11 189), some (PySem.Value.str w11 197), some (PySem.Value.builtin "object.__new__"), some (PySem.Value.bool true)] }),
  (48, cdOb w12 231 w12 232 w9 233 16 2 43 44 (PySem.Value.ref 45) (PySem.Value.ref 46) 47 239 240),
  (49, fnOb w12 w12 (.str w27 187) 48 (stM 2)),
  (55, cdOb w13 242 w13 243 w9 244 29 1 50 51 (PySem.Value.ref 52) (PySem.Value.ref 53) 54 248 249),
  (56, fnOb w13 w13 (.str w27 187) 55 (stM 3)),
  (62, cdOb w14 253 w14 254 w9 255 35 2 57 58 (PySem.Value.ref 59) (PySem.Value.ref 60) 61 261 262),
  (63, fnOb w14 w14 (.str w35 251) 62 (stM 5)),
  (69, cdOb w18 272 w18 273 w9 274 48 2 64 65 (PySem.Value.ref 66) (PySem.Value.ref 67) 68 277 278),
  (70, fnOb w18 w18 (.str w36 264) 69 (stM 10)),
  (76, cdOb w19 280 w19 281 w9 282 54 3 71 72 (PySem.Value.ref 73) (PySem.Value.ref 74) 75 297 298),
  (77, fnOb w19 w19 (.str w36 264) 76 (stM 11)),
  (83, cdOb w20 302 w20 303 w9 304 93 2 78 79 (PySem.Value.ref 80) (PySem.Value.ref 81) 82 307 308),
  (84, fnOb w20 w20 (.str w1 300) 83 (stM 13)),
  (88, cdOb w21 310 w21 311 w9 312 97 2 85 86 PySem.Value.none PySem.Value.none 87 313 314),
  (89, fnOb w21 w21 (.str w1 300) 88 (stM 14)),
  (91, { cls := PySem.Value.none, data := PySem.Data.fields #[] }),
  (95, cdOb w22 316 w22 317 w9 318 103 2 90 91 (PySem.Value.ref 92) (PySem.Value.ref 93) 94 323 324),
  (96, fnOb w22 w22 (.str w1 300) 95 (stM 15)),
  (102, cdOb w23 326 w23 327 w9 328 105 3 97 98 (PySem.Value.ref 99) (PySem.Value.ref 100) 101 334 335),
  (103, fnOb w23 w23 (.str w1 300) 102 (stM 16)),
  (107, cdOb w24 337 w24 338 w9 339 113 1 104 105 PySem.Value.none PySem.Value.none 106 340 341),
  (108, fnOb w24 w24 (.str w1 300) 107 (stM 17))]
noncomputable def topAs : List Addr := [3, 4, 27, 28, 34, 35, 37, 38, 48, 49, 55, 56, 62, 63, 69, 70, 76, 77, 83, 84, 88, 89, 91, 95, 96, 102, 103, 107, 108]
noncomputable def topXt (s : Shared) : Bool := xlAt viewS [] s && recOk [] s
noncomputable def topLook (H₀ : Heap) (d₀ : Drawn) (k₀ : Nat) (p q : Program) (mods : List Str) (th : Thread) (Xt sk : Shared → Bool) (w : World) (os : OsState) := (topRun treeTable p w 11 (some (.ref 6)) 1402 ⟨H₀, #[], d₀, k₀, os⟩ th).map fun s₁ => (sk s₁, openSeen q [] mods Xt true s₁, obsZ topAs s₁)
theorem topLook_refl : topLook = topLook := rfl
lay_quick topLook
name_quick topQ for topLook by topLook_refl
theorem size_ok (w : World) : ((boot_heap w.params).isNs mainGlobals && (#[] : Array GenState).size == 0, (boot_heap w.params).objs.size, (boot_heap w.params).nsMap mainGlobals "__annotations__") = (true, 11, some (.ref 6)) := by kernel_rfl
theorem look1 (w : World) (os : OsState) : PySem.W.Fast.topQ (boot_heap w.params) boot_drawn boot_toks pwS viewS (importedModules pwS.main.body) (topStub pwS) topXt
    (fun s₁ => staticsOk (importedModules pwS.main.body) (boot_heap w.params) s₁.heap && namesBound pwS s₁.heap && gensDone s₁ && laidKept (boot_heap w.params) s₁.heap) w os = some (true, openGood viewS [], valZ topK 109 343 w) := by kernel_rfl
theorem left : LeftO pwS viewS [] topXt (obsZ topAs) (valZ topK 109 343) 1402 :=
  leftO_of (boot_open (by kernel_rfl) (by decide) fun s => by kernel_rfl) size_ok fun w os => by
    have h := look1 w os
    rw [← PySem.W.Fast.topQ_eq] at h
    exact h
end Mine
end

section
set_option maxRecDepth 100000
set_option linter.unusedVariables false
set_option autoImplicit false
namespace Mine
open PySem PySem.W
/-- any world whose base stands -/
structure Wd where
  prog : Program
  w : World
  h : Heap
  mg : Str → Option Value
  mb : Str → Option Value
  mN : Str → Option Value
  base : Base prog w h theT mg mb mN
structure Ev (E : CE) (L : CL) (e : Expr) (H : CH) (v : CV) (H' : CH) : Prop where
  s : ∀ K : Wd, EvS K.prog K.w K.h theT E L e H v H'
noncomputable def Ts (E : CE) (L : CL) (e : Expr) (H : CH) (b : Bool) (H' : CH) : Prop := ∀ K : Wd, TsS K.prog K.w K.h theT E L e H b H'
structure Ex (E : CE) (st : Stmt) (L : CL) (H : CH) (f : CF) (L' : CL) (H' : CH) : Prop where
  s : ∀ K : Wd, ExS K.prog K.w K.h theT E st L H f L' H'
noncomputable def Fr_ (E : CE) (t : Expr) (it : CIt) (b : List Stmt) (L : CL) (H : CH) (f : CF) (L' : CL) (H' : CH) : Prop := ∀ K : Wd, ForS K.prog K.w K.h theT E t it b L H f L' H'
noncomputable def Wh (E : CE) (t : Expr) (b : List Stmt) (L : CL) (H : CH) (f : CF) (L' : CL) (H' : CH) : Prop := ∀ K : Wd, WhS K.prog K.w K.h theT E t b L H f L' H'
noncomputable def Cm (E : CE) (e : Expr) (it : CIt) (a : Nat) (L : CL) (H H' : CH) : Prop := ∀ K : Wd, CmS K.prog K.w K.h theT E e it a L H H'
noncomputable def Es (E : CE) (L : CL) (es : List Expr) (H : CH) (vs : List CV) (H' : CH) : Prop := ∀ K : Wd, EsS K.prog K.w K.h theT E L es H vs H'
noncomputable def Sc (E : CE) (L : CL) (e : Expr) (H : CH) (it : CIt) (H' : CH) : Prop := ∀ K : Wd, ScS K.prog K.w K.h theT E L e H it H'
noncomputable def Co (E : CE) (L : CL) (e : Expr) (H : CH) (v : CV) (H' : CH) : Prop := ∀ K : Wd, CoS K.prog K.w K.h theT E L e H v H'
noncomputable def Fn_ (f : Fn) (lv : Nat) (as : List CV) (H : CH) (v : CV) (H' : CH) : Prop := ∀ K : Wd, FnS K.prog K.w K.h theT f lv as H v H'
inductive Exs (E : CE) : List Stmt → CL → CH → CF → CL → CH → Prop
  | nil {L : CL} {H : CH} : Exs E [] L H .next L H
  | cons {st : Stmt} {ss : List Stmt} {f : CF} {L L1 L2 : CL} {H H1 H2 : CH} (h1 : Ex E st L H .next L1 H1) (h2 : Exs E ss L1 H1 f L2 H2) : Exs E (st :: ss) L H f L2 H2
  | ret {st : Stmt} {ss : List Stmt} {v : CV} {L L1 : CL} {H H1 : CH} (h1 : Ex E st L H (.ret v) L1 H1) : Exs E (st :: ss) L H (.ret v) L1 H1
  | brk {st : Stmt} {ss : List Stmt} {L L1 : CL} {H H1 : CH} (h1 : Ex E st L H .brk L1 H1) : Exs E (st :: ss) L H .brk L1 H1
theorem Exs.sem {E : CE} {ss : List Stmt} {L L1 : CL} {H H1 : CH} {f : CF} (h : Exs E ss L H f L1 H1) : ∀ K : Wd, ExsS K.prog K.w K.h theT E ss L H f L1 H1 := fun K => by
  induction h with
  | nil => exact xs_nil
  | cons h1 _ ih => exact xs_cons (h1.s K) ih
  | ret h1 => exact xs_ret (h1.s K)
  | brk h1 => exact xs_brk (h1.s K)
section
variable {E : CE} {L L1 L2 L3 : CL} {H H1 H2 H3 H4 : CH} {v u a b : CV} {p q : Pos} {f : CF}
theorem Exs.append {s1 s2 : List Stmt} (h1 : Exs E s1 L H .next L1 H1) (h2 : Exs E s2 L1 H1 f L2 H2) : Exs E (s1 ++ s2) L H f L2 H2 := by
  generalize hf : CF.next = g at h1
  induction h1 with
  | nil => exact h2
  | cons h _ ih => exact .cons h (ih h2 hf)
  | ret => cases hf
  | brk => cases hf
theorem Ev.int {i : Int} {k : Nat} : Ev E L (.Constant (.int i) k p) H (.int i) H := ⟨fun _ => ev_int⟩
theorem Ev.str {s : Str} {k : Nat} : Ev E L (.Constant (.str s) k p) H (.str s) H := ⟨fun _ => ev_str⟩
theorem Ev.bool {z : Bool} {k : Nat} : Ev E L (.Constant (.bool z) k p) H (.bool z) H := ⟨fun _ => ev_bool⟩
theorem Ev.nil_ {k : Nat} : Ev E L (.Constant .none k p) H .none H := ⟨fun _ => ev_none⟩
theorem Ev.name {x : Str} (h : getName theT E L x H = some v) : Ev E L (.Name x p) H v H := ⟨fun K => ev_Name K.base.b2.toBs h⟩
theorem Ev.bin {l x : Expr} {op : Operator} (h1 : Ev E L l H a H1) (h2 : Ev E L x H1 b H2) (h3 : binop op a b H2 = some (v, H3)) : Ev E L (.BinOp l op x p) H v H3 := ⟨fun K => ev_BinOp (h1.s K) (h2.s K) h3⟩
theorem Ev.neg {x : Expr} {i : Int} (h1 : Ev E L x H (.int i) H1) : Ev E L (.UnaryOp .USub x p) H (.int (-i)) H1 := ⟨fun K => ev_USub (h1.s K)⟩
theorem Ev.orT {x y : Expr} (h1 : Ev E L x H a H1) (ht : truth a = some true) : Ev E L (.BoolOp .Or [x, y] p) H a H1 := ⟨fun K => ev_OrT (h1.s K) ht⟩
theorem Ev.orF {x y : Expr} (h1 : Ev E L x H a H1) (ht : truth a = some false) (h2 : Ev E L y H1 b H2) : Ev E L (.BoolOp .Or [x, y] p) H b H2 := ⟨fun K => ev_OrF (h1.s K) ht (h2.s K)⟩
theorem Ev.cmp {l x : Expr} {op : CmpOp} {z : Bool} (hs : isSet x = false) (h1 : Ev E L l H a H1) (h2 : Ev E L x H1 b H2) (h3 : cmpop op a b H2 = some z) : Ev E L (.Compare l [op] [x] p) H (.bool z) H2 := ⟨fun K => ev_Compare1 dictNe hs (h1.s K) (h2.s K) h3⟩
theorem Ev.cmp2 {l x y : Expr} {op op' : CmpOp} {c : CV} {z : Bool} (hx : isSet x = false) (hy : isSet y = false) (h1 : Ev E L l H a H1) (h2 : Ev E L x H1 b H2) (h3 : cmpop op a b H2 = some true) (h4 : Ev E L y H2 c H3) (h5 : cmpop op' b c H3 = some z) : Ev E L (.Compare l [op, op'] [x, y] p) H (.bool z) H3 := ⟨fun K => ev_Compare2 dictNe hy (h1.s K) (h2.s K) h3 (h4.s K) h5⟩
theorem Es.nil : Es E L [] H [] H := fun _ => .nil
theorem Es.cons {e : Expr} {es : List Expr} {vs : List CV} (hs : notStar e = true) (h1 : Ev E L e H v H1) (h2 : Es E L es H1 vs H2) : Es E L (e :: es) H (v :: vs) H2 := fun K => .cons hs (h1.s K) (h2 K)
theorem Ev.list {es : List Expr} {vs : List CV} (h : Es E L es H vs H1) (hz : vs.length ≤ 1000) : Ev E L (.List es p) H (.loc H1.length) (H1 ++ [.list vs]) := ⟨fun K => ev_List (h K) hz⟩
theorem Ev.tup {es : List Expr} {k : Nat} {vs : List CV} (h : Es E L es H vs H1) (hz : vs.length ≤ 1000) : Ev E L (.Tuple es k p) H (.loc H1.length) (H1 ++ [.tup vs]) := ⟨fun K => ev_Tuple (h K) hz⟩
theorem Ev.dict0 : Ev E L (.Dict [] [] p) H (.loc H.length) (H ++ [.dict [] 0]) := ⟨fun _ => ev_Dict0⟩
theorem Ev.dict1 {k x : Expr} {i j : Int} (h : Es E L [k, x] H [.int i, .int j] H1) (hi : 0 ≤ i ∧ i < 1000) : Ev E L (.Dict [some k] [x] p) H (.loc H1.length) (H1 ++ [.dict [(i, j)] 1]) := ⟨fun K => by
  obtain - | ⟨_, e1, - | ⟨_, e2, en⟩⟩ := h K
  cases en
  exact ev_Dict1 e1 e2⟩
theorem Ev.attr {o : Expr} {n d l : Nat} (hb : plainBase o = true) (h : Ev E L o H (.loc n) H1) (h1 : H1[n]? = some (.inst d)) (h2 : H1[d]? = some (.idict (some l))) : Ev E L (.Attribute o "comp_select_list" p) H (.loc l) H1 := ⟨fun K => ev_Attribute K.base.cl hb (h.s K) h1 h2⟩
theorem Ev.sub {o i : Expr} (hs : sliceOf i = none) (h1 : Ev E L o H a H1) (h2 : Ev E L i H1 b H2) (h3 : getItem a b H2 = some v) : Ev E L (.Subscript o i p) H v H2 := ⟨fun K => ev_sub hs (h1.s K) (h2.s K) h3⟩
/-- a cut xs[:k] -/
theorem Ev.upto {o hi : Expr} {k : Int} {n : Nat} {xs : List CV} (h1 : Ev E L o H (.loc n) H1) (h2 : Ev E L hi H1 (.int k) H2) (h3 : H2[n]? = some (.list xs)) (h4 : 0 ≤ k ∧ xs.length ≤ 1000) : Ev E L (.Subscript o (.Slice none (some hi) none q) p) H (.loc H2.length) (H2 ++ [.list (xs.take k.toNat)]) := ⟨fun K =>
  ev_cut (h1.s K) .none (.some (h2.s K)) (by
    show sliceAt (.loc n) none (some k) H2 = _
    simp only [sliceAt, h3, if_pos h4])⟩
/-- a text's cut from some place on -/
theorem Ev.from_ {o lo : Expr} {s t : Str} {k : Int} (h1 : Ev E L o H (.str s) H1) (h2 : Ev E L lo H1 (.int k) H2) (hz : s.cps.size ≤ 1000) (ht : Txt.slice s (some k) none = t) : Ev E L (.Subscript o (.Slice (some lo) none none q) p) H (.str t) H2 := ⟨fun K =>
  ev_cut (h1.s K) (.some (h2.s K)) .none (ht ▸ if_pos hz)⟩
theorem Ev.to_ {o hi : Expr} {s t : Str} {k : CV} {z : Option Int} (h1 : Ev E L o H (.str s) H1) (h2 : Ev E L hi H1 k H2) (hk : sPart k = some z) (hz : s.cps.size ≤ 1000) (ht : Txt.slice s none z = t) : Ev E L (.Subscript o (.Slice none (some hi) none q) p) H (.str t) H2 := ⟨fun K =>
  ev_cut (h1.s K) .none (.some (h2.s K)) (by
    subst ht
    show (match sPart k with | some hi => sliceAt (.str s) none hi H2 | none => none) = _
    rw [hk]
    exact if_pos hz)⟩
theorem Ev.fn {f : Str} {as : List Expr} {g : Fn} {vs : List CV} (hn : as.isEmpty = false) (hk : kindIn E f = some .globalImplicit) (hg : theT.fns.lookup f = some g) (h1 : Es E L as H vs H1) (h2 : Fn_ g E.lv vs H1 v H2) : Ev E L (.Call (.Name f q) as [] p) H v H2 := ⟨fun K => ev_CallFn K.base.b2 hn hk (h1 K) hg (h2 K)⟩
theorem Ev.bi {f : Str} {as : List Expr} {g : BN} {vs : List CV} (hn : as.isEmpty = false) (hk : kindIn E f = some .globalImplicit) (hg : theT.fns.lookup f = none) (hb : builtins.lookup f = some g) (h1 : Es E L as H vs H1) (h2 : BiS g vs H1 v H2) : Ev E L (.Call (.Name f q) as [] p) H v H2 := ⟨fun K => ev_CallBi K.base.b2 hn hk (h1 K) hg hb h2⟩
theorem Ev.lamCall {f : Str} {as : List Expr} {vs : List CV} {n k lv : Nat} {cells : List (Str × Nat)} {ps : List Str} {body : Expr} {sc : Scope} (hn : as.isEmpty = false) (hk : kindIn E f = some .local) (hL : L.lookup f = some (.loc n)) (h1 : Es E L as H vs H1)
    (hc : H1[n]? = some (.clo k cells ps body sc)) (hd : H1[k]? = some .code) (hlv : E.lv = lv + 1) (hl : ps.length = vs.length) (hb : bindAll ⟨sc, (newCells sc.names cells H1).1, lv, 0, "_law_first.<locals>.<lambda>.<locals>."⟩ (ps.zip vs) [] (newCells sc.names cells H1).2 = some (L1, H2))
    (h2 : Ev ⟨sc, (newCells sc.names cells H1).1, lv, 0, "_law_first.<locals>.<lambda>.<locals>."⟩ L1 body H2 v H3) : Ev E L (.Call (.Name f q) as [] p) H v H3 := ⟨fun K => ev_CallLocal K.base.b2.toBs hn hk hL (h1 K) hc hd hlv hl hb (h2.s K)⟩
section
variable {o x : Expr} {n : Nat} {xs xs0 : List CV}
theorem Ev.append (hb : plainBase o = true) (hli : q.endLine = p.line) (hs : notStar x = true) (h1 : Ev E L o H (.loc n) H1) (h2 : Ev E L x H1 v H2) (g0 : H1[n]? = some (.list xs0)) (g1 : H2[n]? = some (.list xs)) (h0 : n ≠ 0) (hz : xs.length ≤ 1000) : Ev E L (.Call (.Attribute o "append" q) [x] [] p) H .none (H2.set n (.list (xs ++ [v]))) :=
  ⟨fun K => m_append hb hli hs (h1.s K) (h2.s K) g0 g1 h0 hz⟩
theorem Ev.extend {m : Nat} {ys : List CV} (hb : plainBase o = true) (hli : q.endLine = p.line) (hs : notStar x = true) (h1 : Ev E L o H (.loc n) H1) (h2 : Ev E L x H1 (.loc m) H2) (g0 : H1[n]? = some (.list xs0)) (g1 : H2[n]? = some (.list xs)) (g2 : H2[m]? = some (.list ys)) (h0 : n ≠ 0) (hz : xs.length ≤ 1000 ∧ ys.length ≤ 1000) : Ev E L (.Call (.Attribute o "extend" q) [x] [] p) H .none (H2.set n (.list (xs ++ ys))) :=
  ⟨fun K => m_extend hb hli hs (h1.s K) (h2.s K) g0 g1 g2 h0 hz⟩
theorem Ev.pop {i : Int} {j : Nat} (hb : plainBase o = true) (hli : q.endLine = p.line) (hs : notStar x = true) (h1 : Ev E L o H (.loc n) H1) (h2 : Ev E L x H1 (.int i) H2) (g0 : H1[n]? = some (.list xs0)) (g1 : H2[n]? = some (.list xs)) (h0 : n ≠ 0) (hj : idx xs.length i = some j) (hv : xs[j]? = some v) : Ev E L (.Call (.Attribute o "pop" q) [x] [] p) H v (H2.set n (.list (xs.eraseIdx j))) :=
  ⟨fun K => m_pop hb hli hs (h1.s K) (h2.s K) g0 g1 h0 hj hv⟩
theorem Ev.index {l : List Int} {i : Int} (hb : plainBase o = true) (hli : q.endLine = p.line) (hs : notStar x = true) (h1 : Ev E L o H (.loc n) H) (h2 : Ev E L x H (.int i) H) (g1 : H[n]? = some (.list (intL l))) (hz : l.length ≤ 1000) (hi : i ∈ l) : Ev E L (.Call (.Attribute o "index" q) [x] [] p) H (.int (l.idxOf i : Nat)) H :=
  ⟨fun K => m_index hb hli hs (h1.s K) (h2.s K) g1 g1 hz hi⟩
theorem Ev.indexT {a b c i : Int} (hb : plainBase o = true) (hli : q.endLine = p.line) (hs : notStar x = true) (h1 : Ev E L o H (.loc n) H) (h2 : Ev E L x H (.int i) H) (g1 : H[n]? = some (.tup (intL [a, b, c]))) (hi : i ∈ [a, b, c]) : Ev E L (.Call (.Attribute o "index" q) [x] [] p) H (.int (([a, b, c] : List Int).idxOf i : Nat)) H :=
  ⟨fun K => m_indexT hb hli hs (h1.s K) (h2.s K) g1 g1 (by
    by_cases ha : a = i
    · subst ha; exact .inl ⟨rfl, List.idxOf_cons_self⟩
    · have ea : (a == i) = false := beq_eq_false_iff_ne.mpr ha
      by_cases hb : b = i
      · subst hb; exact .inr (.inl ⟨ha, rfl, by rw [List.idxOf_cons, ea, List.idxOf_cons_self]; rfl⟩)
      · have eb : (b == i) = false := beq_eq_false_iff_ne.mpr hb
        have hc : c = i := by
          obtain _ | ⟨_, _ | ⟨_, _ | ⟨_, hi⟩⟩⟩ := hi
          · exact absurd rfl ha
          · exact absurd rfl hb
          · rfl
          · cases hi
        subst hc; exact .inr (.inr ⟨ha, hb, rfl, by rw [List.idxOf_cons, ea, List.idxOf_cons, eb, List.idxOf_cons_self]; rfl⟩))⟩
theorem Ev.lower {s t : Str} (hb : plainBase o = true) (hli : q.endLine = p.line) (h : Ev E L o H (.str s) H1) (ht : strLower s = some t) : Ev E L (.Call (.Attribute o "lower" q) [] [] p) H (.str t) H1 := ⟨fun K => m_lower hb hli (h.s K) ht⟩
end
theorem Ev.own {o : Expr} {as : List Expr} {vs : List CV} {n d l : Nat} (hb : plainBase o = true) (hli : q.endLine = p.line) (hz : as.length ≤ 10) (hn : as.isEmpty = false) (h1 : Ev E L o H (.loc n) H1) (h2 : Es E L as H1 vs H2) (hi : H1[n]? = some (.inst d)) (hd : H1[d]? = some (.idict (some l))) (h3 : Fn_ cmpF E.lv (.loc n :: vs) H2 v H3) :
    Ev E L (.Call (.Attribute o "compare" q) as [] p) H v H3 := ⟨fun K => m_compare K.base.cl hb hli hz hn (h1.s K) (h2 K) hi hd (h3 K)⟩
theorem Co.list {e : Expr} {g : Comprehension} {scope : Scope} {it : CIt} {E' : CE} (ha : g.is_async = 0) (h1 : Sc E L g.iter H it H1) (h2 : compEnv scope E (H1 ++ [.list []]) = some (E', H2)) (h3 : Cm E' (.ListComp e [g] scope p) it H1.length [] H2 H3) : Co E L (.ListComp e [g] scope p) H (.loc H1.length) H3 := fun K => .list ha (h1 K) h2 (h3 K)
theorem Co.dict {k x : Expr} {g : Comprehension} {scope : Scope} {it : CIt} {E' : CE} (ha : g.is_async = 0) (h1 : Sc E L g.iter H it H1) (h2 : compEnv scope E (H1 ++ [.dict [] 0]) = some (E', H2)) (h3 : Cm E' (.DictComp k x [g] scope p) it H1.length [] H2 H3) : Co E L (.DictComp k x [g] scope p) H (.loc H1.length) H3 := fun K => .dict ha (h1 K) h2 (h3 K)
theorem Co.ev {e : Expr} (h : Co E L e H v H1) : Ev E L e H v H1 := ⟨fun K => ev_comp (h K)⟩
theorem Ev.listComp {e : Expr} {g : Comprehension} {scope : Scope} {it : CIt} {E' : CE} (ha : g.is_async = 0) (h1 : Sc E L g.iter H it H1) (h2 : compEnv scope E (H1 ++ [.list []]) = some (E', H2)) (h3 : Cm E' (.ListComp e [g] scope p) it H1.length [] H2 H3) : Ev E L (.ListComp e [g] scope p) H (.loc H1.length) H3 := Co.ev (Co.list ha h1 h2 h3)
theorem Ev.dictComp {k x : Expr} {g : Comprehension} {scope : Scope} {it : CIt} {E' : CE} (ha : g.is_async = 0) (h1 : Sc E L g.iter H it H1) (h2 : compEnv scope E (H1 ++ [.dict [] 0]) = some (E', H2)) (h3 : Cm E' (.DictComp k x [g] scope p) it H1.length [] H2 H3) : Ev E L (.DictComp k x [g] scope p) H (.loc H1.length) H3 := Co.ev (Co.dict ha h1 h2 h3)
theorem Ev.lamHit {as : Arguments} {body : Expr} {scope : Scope} {x : Str} {cs : List (Str × Nat)} {k : Nat} (K : LamOk E as scope p x cs) (hc : codeAt H 0 = some k) : Ev E L (.Lambda as body scope p) H (.loc H.length) (H ++ [.clo k cs [x] body scope]) := ⟨fun B => ev_Lambda B.base.b2.toBs B.base.lb K (.inl ⟨k, hc, rfl, rfl⟩)⟩
theorem Ev.lamNew {as : Arguments} {body : Expr} {scope : Scope} {x : Str} {cs : List (Str × Nat)} (K : LamOk E as scope p x cs) (hc : codeAt H 0 = none) : Ev E L (.Lambda as body scope p) H (.loc (H.length + 1)) (H ++ [.code, .clo H.length cs [x] body scope]) := ⟨fun B => ev_Lambda B.base.b2.toBs B.base.lb K (.inr ⟨hc, rfl, rfl⟩)⟩
theorem Ts.of {e : Expr} {z : Bool} (hp : plainTest e = true) (h : Ev E L e H v H1) (ht : truth v = some z) : Ts E L e H z H1 := fun K => ts_of hp (h.s K) ht
theorem Ts.cmp {l x : Expr} {op : CmpOp} {z : Bool} (hs : isSet x = false) (h1 : Ev E L l H a H1) (h2 : Ev E L x H1 b H2) (h3 : cmpop op a b H2 = some z) : Ts E L (.Compare l [op] [x] p) H z H2 := fun K => ts_Compare dictNe hs (h1.s K) (h2.s K) h3
theorem Ts.not {x : Expr} {z : Bool} (h : Ts E L x H z H1) : Ts E L (.UnaryOp .Not x p) H (!z) H1 := fun K => ts_not (h K)
theorem Ts.stop {op : BoolOp} {x : Expr} {es : List Expr} (h : Ts E L x H (op != .And) H1) : Ts E L (.BoolOp op (x :: es) p) H (op != .And) H1 := fun K => ts_all (.stop (h K))
/-- a chain of tests -/
noncomputable def At (op : BoolOp) (E : CE) (L : CL) (es : List Expr) (H : CH) (b : Bool) (H' : CH) : Prop := ∀ K : Wd, AtS K.prog K.w K.h theT op E L es H b H'
theorem At.nil {op : BoolOp} : At op E L [] H (op == .And) H := fun _ => .nil
theorem At.stop {op : BoolOp} {x : Expr} {es : List Expr} (h : Ts E L x H (op != .And) H1) : At op E L (x :: es) H (op != .And) H1 := fun K => .stop (h K)
theorem At.go {op : BoolOp} {x : Expr} {es : List Expr} {z : Bool} (h : Ts E L x H (op == .And) H1) (h2 : At op E L es H1 z H2) : At op E L (x :: es) H z H2 := fun K => .go (h K) (h2 K)
theorem Ts.all {op : BoolOp} {es : List Expr} {z : Bool} (h : At op E L es H z H1) : Ts E L (.BoolOp op es p) H z H1 := fun K => ts_all (h K)
theorem Sc.of {e : Expr} {it : CIt} (hp : plainSrc e = true) (h : Ev E L e H v H1) (hi : iterOf v H1 = some it) : Sc E L e H it H1 := fun K => sc_of hp (h.s K) hi
theorem Sc.view {o : Expr} {f : Str} {n ep : Nat} {kvs : List (Int × Int)} (hb : plainBase o = true) (hli : q.endLine = p.line) (hf : f = "items" ∨ f = "values") (h : Ev E L o H (.loc n) H1) (h1 : H1[n]? = some (.dict kvs ep)) :
    Sc E L (.Call (.Attribute o f q) [] [] p) H (.items (decide (f = "values")) n ep kvs.length 0) H1 := fun K => sc_view hb hli hf (h.s K) h1
theorem Ev.ifexp {t x y : Expr} {z : Bool} (h1 : Ts E L t H z H1) (h2 : Ev E L (if z then x else y) H1 v H2) : Ev E L (.IfExp t x y p) H v H2 := ⟨fun K => ev_IfExp (h1 K) (h2.s K)⟩
theorem Ex.swap {x y a b : Str} {px py pa pb q q' : Pos} {k k' : Nat} (hxy : x ≠ y) (ha : a ≠ ("__debug__" : Str)) (hl : px.line = py.line) (e : Es E L [.Name a pa, .Name b pb] H [v, u] H1)
    (e' : (if kindIn E x = some .local ∧ kindIn E y = some .local then bind2 E y x u v L H1 else bind2 E x y v u L H1) = some (L2, H2)) : Ex E (.Assign [.Tuple [.Name x px, .Name y py] k q] (.Tuple [.Name a pa, .Name b pb] k' q') p) L H .next L2 H2 := ⟨fun K => st_swap hxy ha hl (e K) e'⟩
theorem Sc.zip {a b : Expr} {x y : Str} (hk : kindIn E ("zip" : Str) = some .globalImplicit) (e : Es E L [a, b] H [.str x, .str y] H1) (hxy : x.cps.all (· < 128) ∧ y.cps.all (· < 128)) : Sc E L (.Call (.Name "zip" q) [a, b] [] p) H (.zip x y 0) H1 := fun K => sc_zip K.base.b2.toBs K.base.zip hk (e K) hxy
theorem Cm.done {e : Expr} {g : Comprehension} {sc : Scope} {it : CIt} {acc : Nat} (ha : g.is_async = 0) (h : turn it H = some none) : Cm E (.ListComp e [g] sc p) it acc L H H := fun _ => by
  obtain ⟨t, iter, ifs, asy⟩ := g
  cases ha
  exact cm_done h
theorem Cm.doneD {k e : Expr} {g : Comprehension} {sc : Scope} {it : CIt} {acc : Nat} (ha : g.is_async = 0) (h : turn it H = some none) : Cm E (.DictComp k e [g] sc p) it acc L H H := fun _ => by
  obtain ⟨t, iter, ifs, asy⟩ := g
  cases ha
  exact cm_doneD h
/-- a comprehension's test -/
noncomputable def Tst (E : CE) (L : CL) (ifs : List Expr) (H : CH) (b : Bool) (H' : CH) : Prop := match ifs with
  | [] => b = true ∧ H' = H
  | [c] => Ts E L c H b H'
  | _ => False
theorem Tst.tf {ifs : List Expr} {b : Bool} (h : Tst E L ifs H b H1) : ∀ K : Wd, TfS K.prog K.w K.h theT E L ifs H b H1 := fun K => by
  rcases ifs with _ | ⟨c, _ | ⟨_, _⟩⟩
  · obtain ⟨rfl, rfl⟩ := h; exact .nil
  · exact .one ((h : Ts E L c H b H1) K)
  · exact h.elim
section
variable {k e t iter : Expr} {ifs : List Expr} {sc : Scope} {it it' : CIt} {acc : Nat} {vs : List CV}
theorem Cm.add {xs : List CV} (ht : turn it H = some (some (vs, it'))) (hb : bindTarget E t vs L H = some (L1, H1)) (hi : Tst E L1 ifs H1 true H2) (he : Ev E L1 e H2 v H3) (ha : H3[acc]? = some (.list xs)) (hz : acc ≠ 0 ∧ xs.length ≤ 1000)
    (hr : Cm E (.ListComp e [⟨t, iter, ifs, 0⟩] sc p) it' acc L1 (H3.set acc (.list (xs ++ [v]))) H4) : Cm E (.ListComp e [⟨t, iter, ifs, 0⟩] sc p) it acc L H H4 := fun K => cm_add ht hb (hi.tf K) (he.s K) ha hz (hr K)
theorem Cm.skip (ht : turn it H = some (some (vs, it'))) (hb : bindTarget E t vs L H = some (L1, H1)) (hi : Tst E L1 ifs H1 false H2)
    (hr : Cm E (.ListComp e [⟨t, iter, ifs, 0⟩] sc p) it' acc L1 H2 H4) : Cm E (.ListComp e [⟨t, iter, ifs, 0⟩] sc p) it acc L H H4 := fun K => cm_skip ht hb (hi.tf K) (hr K)
theorem Cm.addD {ep : Nat} {xs : List (Int × Int)} {i j : Int} (ht : turn it H = some (some (vs, it'))) (hb : bindTarget E t vs L H = some (L1, H1)) (hi : Tst E L1 ifs H1 true H2) (he : Es E L1 [k, e] H2 [.int i, .int j] H3)
    (ha : H3[acc]? = some (.dict xs ep)) (hz : acc ≠ 0 ∧ 0 ≤ i ∧ i < 1000 ∧ xs.length ≤ 1000 ∧ (xs.lookup i).isNone)
    (hr : Cm E (.DictComp k e [⟨t, iter, ifs, 0⟩] sc p) it' acc L1 (H3.set acc (.dict (xs ++ [(i, j)]) (ep + 1))) H4) : Cm E (.DictComp k e [⟨t, iter, ifs, 0⟩] sc p) it acc L H H4 := fun K => by
  obtain - | ⟨_, e1, - | ⟨_, e2, en⟩⟩ := he K
  cases en
  exact cm_addD ht hb (hi.tf K) e1 e2 ha hz (hr K)
theorem Cm.skipD (ht : turn it H = some (some (vs, it'))) (hb : bindTarget E t vs L H = some (L1, H1)) (hi : Tst E L1 ifs H1 false H2)
    (hr : Cm E (.DictComp k e [⟨t, iter, ifs, 0⟩] sc p) it' acc L1 H2 H4) : Cm E (.DictComp k e [⟨t, iter, ifs, 0⟩] sc p) it acc L H H4 := fun K => cm_skipD ht hb (hi.tf K) (hr K)
end
section
variable {x : Str} {e o i t : Expr} {body c d : List Stmt} {n ep : Nat} {it it' : CIt} {vs : List CV}
theorem Ex.ret {x : Expr} (h : Ev E L x H v H1) : Ex E (.Return (some x) p) L H (.ret v) L H1 := ⟨fun K => st_Return (h.s K)⟩
theorem Ex.brk : Ex E (.Break p) L H .brk L H := ⟨fun _ => st_Break⟩
theorem Ex.exprNone {f : Expr} {as : List Expr} {ks : List Keyword} (h : Ev E L (.Call f as ks q) H .none H1) : Ex E (.Expr (.Call f as ks q) p) L H .next L H1 := ⟨fun K => st_Expr (h.s K)⟩
theorem Ex.ite {z : Bool} (h : Ts E L t H z H1) (h2 : Exs E (if z then c else d) L H1 f L2 H2) : Ex E (.If t c d p) L H f L2 H2 := ⟨fun K => st_If (h K) (h2.sem K)⟩
theorem Ex.set (hc : isComp e = false) (h : Ev E L e H v H1) (hs : setName E x v L H1 = some (L2, H2)) : Ex E (.Assign [.Name x q] e p) L H .next L2 H2 := ⟨fun K => st_set hc (h.s K) hs⟩
theorem Ex.setItem {k : Int} {xs : List CV} (hc : isComp e = false) (h : Ev E L e H v H1) (ho : Ev E L o H1 (.loc n) H2) (hi : Ev E L i H2 (.int k) H3) (hn : H3[n]? = some (.list xs)) (hz : n ≠ 0 ∧ 0 ≤ k ∧ k < 1000 ∧ k < xs.length) :
    Ex E (.Assign [.Subscript o i q] e p) L H .next L (H3.set n (.list (xs.set k.toNat v))) := ⟨fun K => st_item hc (h.s K) (ho.s K) (hi.s K) hn hz⟩
theorem Ex.setKey {k j : Int} {xs : List (Int × Int)} (hc : isComp e = false) (h : Ev E L e H (.int j) H1) (ho : Ev E L o H1 (.loc n) H2) (hi : Ev E L i H2 (.int k) H3) (hn : H3[n]? = some (.dict xs ep)) (hz : n ≠ 0 ∧ 0 ≤ k ∧ k < 1000 ∧ xs.length ≤ 1000 ∧ (xs.lookup k).isNone) :
    Ex E (.Assign [.Subscript o i q] e p) L H .next L (H3.set n (.dict (xs ++ [(k, j)]) (ep + 1))) := ⟨fun K => st_key hc (h.s K) (ho.s K) (hi.s K) hn hz⟩
/-- a comprehension stored under a name -/
theorem Ex.setComp (hc : isComp e = true) (h : Co E L e H v H1) (hs : setName E x v L H1 = some (L2, H2)) : Ex E (.Assign [.Name x q] e p) L H .next L2 H2 := ⟨fun K => st_comp (h K) hs⟩
theorem Ex.aug {i j : Int} (hg : getName theT E L x H = some (.int i)) (h : Ev E L e H (.int j) H1) (hs : setName E x (.int (i + j)) L H1 = some (L2, H2)) : Ex E (.AugAssign (.Name x q) .Add e p) L H .next L2 H2 := ⟨fun K => st_add K.base.b2.toBs hg (h.s K) hs⟩
theorem Ex.less {i j : Int} (hg : getName theT E L x H = some (.int i)) (h : Ev E L e H (.int j) H1) (hs : setName E x (.int (i - j)) L H1 = some (L2, H2)) : Ex E (.AugAssign (.Name x q) .Sub e p) L H .next L2 H2 := ⟨fun K => st_subtract K.base.b2.toBs hg (h.s K) hs⟩
theorem Ex.two {y : Str} {q' : Pos} (h : Ev E L e H v H1) (hs : bind2 E x y v v L H1 = some (L2, H2)) : Ex E (.Assign [.Name x q, .Name y q'] e p) L H .next L2 H2 := ⟨fun K => st_two (h.s K) hs⟩
theorem Ex.for_ (h : Sc E L e H it H1) (h2 : Fr_ E t it body L H1 f L2 H2) : Ex E (.For t e body [] p) L H f L2 H2 := ⟨fun K => st_For (h K) (h2 K)⟩
theorem Ex.while_ (h : Wh E t body L H f L2 H2) : Ex E (.While t body [] p) L H f L2 H2 := ⟨fun K => st_While (h K)⟩
theorem Fr_.done (h : turn it H = some none) : Fr_ E t it body L H .next L H := fun _ => fr_done h
theorem Fr_.next (h : turn it H = some (some (vs, it'))) (hb : bindTarget E t vs L H = some (L1, H1)) (h1 : Exs E body L1 H1 .next L2 H2) (h2 : Fr_ E t it' body L2 H2 f L3 H3) : Fr_ E t it body L H f L3 H3 := fun K => fr_next h hb (h1.sem K) (h2 K)
theorem Fr_.brk (h : turn it H = some (some (vs, it'))) (hb : bindTarget E t vs L H = some (L1, H1)) (h1 : Exs E body L1 H1 .brk L2 H2) : Fr_ E t it body L H .next L2 H2 := fun K => fr_brk h hb (h1.sem K)
theorem Fr_.ret (h : turn it H = some (some (vs, it'))) (hb : bindTarget E t vs L H = some (L1, H1)) (h1 : Exs E body L1 H1 (.ret v) L2 H2) : Fr_ E t it body L H (.ret v) L2 H2 := fun K => fr_ret h hb (h1.sem K)
theorem Wh.done (h : Ts E L t H false H1) : Wh E t body L H .next L H1 := fun K => wh_done (h K)
theorem Wh.next (h : Ts E L t H true H1) (h1 : Exs E body L H1 .next L2 H2) (h2 : Wh E t body L2 H2 f L3 H3) : Wh E t body L H f L3 H3 := fun K => wh_next (h K) (h1.sem K) (h2 K)
end
theorem Fn_.run {g : Fn} {lv : Nat} {as : List CV} (hl : g.args.args.length = as.length) (hb : bindAll ⟨g.scope, (newCells g.scope.names [] H).1, lv, g.code, g.qual ++ ".<locals>."⟩ ((g.args.args.map (·.arg)).zip as) [] (newCells g.scope.names [] H).2 = some (L1, H1))
    (h : Exs ⟨g.scope, (newCells g.scope.names [] H).1, lv, g.code, g.qual ++ ".<locals>."⟩ g.body L1 H1 (.ret v) L2 H2) : Fn_ g (lv + 1) as H v H2 := fun K => call_body K.base.b2.toBs hl hb (h.sem K)
/-- a call with no object among its operands -/
theorem Fn_.loc {g : Fn} {lv : Nat} {as : List CV} {i : Int} (hp : as.all isPlain = true) (hc : codeAt H 0 = none) (h : ∃ H', Fn_ g lv as [.any] (.int i) H' ∧ codeAt H' 0 = none) : Fn_ g lv as H (.int i) H := fun K => h.elim fun _ h => call_loc hp hc (h.1 K) h.2 rfl
end
end Mine
end

section
set_option maxRecDepth 100000
set_option linter.unusedVariables false
set_option autoImplicit false
namespace Mine
open PySem
section
variable {E : CE} {L : CL} {H : CH} {v : CV}
theorem nm_local {x : Str} (hk : kindIn E x = some .local) (hl : L.lookup x = some v) : getName theT E L x H = some v := by
  simp only [getName, hk, hl]
theorem nm_cell {x : Str} {n : Nat} (hk : kindIn E x = some .cell) (hc : E.cells.lookup x = some n) (hn : H[n]? = some (.cell (some v))) : getName theT E L x H = some v := by
  simp only [getName, hk, hc, hn]
theorem nm_free {x : Str} {n : Nat} (hk : kindIn E x = some .free) (hc : E.cells.lookup x = some n) (hn : H[n]? = some (.cell (some v))) : getName theT E L x H = some v := by
  simp only [getName, hk, hc, hn]
theorem nm_num {x : Str} {i : Int} (hk : kindIn E x = some .globalImplicit) (hc : theT.nums.lookup x = some i) : getName theT E L x H = some (.int i) := by
  simp only [getName, hk, hc, Option.map_some]
theorem set_local {x : Str} (hk : kindIn E x = some .local) : setName E x v L H = some (L.set x v, H) := by
  simp only [setName, hk]
theorem set_cell {x : Str} {n : Nat} {u : Option CV} (hk : kindIn E x = some .cell) (hc : E.cells.lookup x = some n) (hn : H[n]? = some (.cell u)) (h0 : n ≠ 0) : setName E x v L H = some (L, H.set n (.cell (some v))) := by
  simp only [setName, hk, hc, hn, if_neg h0]
theorem gi_list {m : Nat} {k : Int} {xs : List CV} (h : H[m]? = some (.list xs)) (hk : 0 ≤ k ∧ xs.length ≤ 1000) (hx : xs[k.toNat]? = some v) : getItem (.loc m) (.int k) H = some v := by
  simp only [getItem, h, hk, and_self, if_true, hx]
theorem gi_tup {m : Nat} {k : Int} {xs : List CV} (h : H[m]? = some (.tup xs)) (hk : 0 ≤ k ∧ xs.length ≤ 1000) (hx : xs[k.toNat]? = some v) : getItem (.loc m) (.int k) H = some v := by
  simp only [getItem, h, hk, and_self, if_true, hx]
theorem hp_app {n : Nat} {o : CO} {X : CH} (h : H[n]? = some o) : (H ++ X)[n]? = some o := List.getElem?_append_left (List.getElem?_eq_some_iff.mp h).1 ▸ h
theorem hp_new {o : CO} {X : CH} {k : Nat} (h : X[k]? = some o) : (H ++ X)[H.length + k]? = some o := by
  rw [List.getElem?_append_right (Nat.le_add_right _ _), Nat.add_sub_cancel_left]; exact h
theorem hp_new0 {o : CO} {X : CH} (h : X[0]? = some o) : (H ++ X)[H.length]? = some o := hp_new (k := 0) h
theorem hp_set {n m : Nat} {o o' : CO} (hn : m ≠ n) (h : H[n]? = some o) : (H.set m o')[n]? = some o := by rw [List.getElem?_set_ne hn]; exact h
theorem hp_self {n : Nat} {o o' : CO} (h : H[n]? = some o) : (H.set n o')[n]? = some o' := List.getElem?_set_self (List.getElem?_eq_some_iff.mp h).1
theorem cm_int {op : CmpOp} {a b : Int} {z : Bool} (h : cmpop op (.int a) (.int b) [] = some z) : cmpop op (.int a) (.int b) H = some z := by
  cases op <;> first | exact h | (cases h)
end
theorem lk_eq {L : CL} {x : Str} {v : CV} : (CL.set L x v).lookup x = some v := by rw [CL.lookup_set, if_pos rfl]
theorem lk_ne {L : CL} {x y : Str} {v u : CV} (h : y ≠ x) (e : L.lookup y = some u) : (CL.set L x v).lookup y = some u := by rw [CL.lookup_set, if_neg h]; exact e
theorem bt1 {E : CE} {L L' : CL} {H H' : CH} {x : Str} {p : Pos} {v : CV} (h : setName E x v L H = some (L', H')) : bindTarget E (.Name x p) [v] L H = some (L', H') := h
theorem bt2 {E : CE} {L L1 L2 : CL} {H H1 H2 : CH} {x y : Str} {p q r : Pos} {k : Nat} {v u : CV} (h1 : setName E x v L H = some (L1, H1)) (h2 : setName E y u L1 H1 = some (L2, H2)) : bindTarget E (.Tuple [.Name x p, .Name y q] k r) [v, u] L H = some (L2, H2) := by
  show bindVals E x y [v, u] L H = _
  simp only [bindVals, bind2, h1, h2]
theorem bt3 {E : CE} {L L1 L2 : CL} {H H1 H2 : CH} {x y : Str} {p q r : Pos} {k t : Nat} {v u : CV} (ht : H[t]? = some (.tup [v, u])) (h1 : setName E x v L H = some (L1, H1)) (h2 : setName E y u L1 H1 = some (L2, H2)) : bindTarget E (.Tuple [.Name x p, .Name y q] k r) [.loc t] L H = some (L2, H2) := by
  show bindVals E x y [.loc t] L H = _
  simp only [bindVals, bind2, ht, two, h1, h2]
local macro_rules | `(tactic| walk_at "lk") => `(tactic| first | assumption | exact lk_eq | (apply lk_ne (by decide); walk_at "lk") | rfl)
local macro_rules | `(tactic| walk_at "hp") => `(tactic| first | assumption | (apply hp_app; walk_at "hp") | (apply hp_new0; rfl) | (apply hp_new; rfl) | (apply hp_set (by first | decide | (first | lia | omega)); walk_at "hp") | (apply hp_self; walk_at "hp"))
local macro_rules | `(tactic| walk_at "nm") => `(tactic| first | (apply nm_local rfl; walk_at "lk") | (apply nm_cell rfl rfl; walk_at "hp") | (apply nm_free rfl rfl; walk_at "hp") | exact nm_num rfl rfl)
local macro_rules | `(tactic| walk_at "st") => `(tactic| first | exact set_local rfl | (apply set_cell rfl rfl (h0 := by decide); walk_at "hp"))
local macro_rules | `(tactic| walk_at "bt") => `(tactic| first | (apply bt1; walk_at "st") | (apply bt2; walk_at "st"; walk_at "st") | (apply bt3; walk_at "hp"; walk_at "st"; walk_at "st"))
local macro_rules | `(tactic| walk_at "gi") => `(tactic| first | assumption | (apply gi_list; walk_at "hp"; (first | assumption | decide | (simp; done)); (first | assumption | rfl)) | (apply gi_tup; walk_at "hp"; (first | assumption | decide | (simp; done)); (first | assumption | rfl)))
local macro_rules | `(tactic| walk_at "ev") => `(tactic| first
  | exact Ev.int | exact Ev.str | exact Ev.bool | exact Ev.dict0
  | (apply Ev.name; walk_at "nm")
  | (apply Ev.sub rfl; walk_at "ev"; walk_at "ev"; walk_at "gi")
  | (apply Ev.neg; walk_at "ev")
  | (apply Ev.bin; walk_at "ev"; walk_at "ev"; first | assumption | rfl)
  | (apply Ev.cmp rfl; walk_at "ev"; walk_at "ev"; first | assumption | rfl))
local macro_rules | `(tactic| walk_at "ts") => `(tactic| first
  | (apply Ts.cmp rfl; walk_at "ev"; walk_at "ev"; first | assumption | rfl))
local macro_rules | `(tactic| walk_at "ex") => `(tactic| first
  | (apply Ex.set rfl; walk_at "ev"; walk_at "st")
  | (apply Ex.ret; walk_at "ev") | exact Ex.brk)
/-- compare of TupleComp, by what its list says -/
noncomputable def keyCmp : List (Int × Int) → List Int → List Int → Int
  | [], _, _ => 0
  | (i, d) :: r, x, y => if (x.getD i.toNat 0) < (y.getD i.toNat 0) then -d else if (y.getD i.toNat 0) < (x.getD i.toNat 0) then d else keyCmp r x y
structure KeysAt (H : CH) (n : Nat) (ks : List (Int × Int)) (d l : Nat) (ts : List Nat) : Prop where
  inst : H[n]? = some (.inst d)
  dict : H[d]? = some (.idict (some l))
  list : H[l]? = some (.list (ts.map .loc))
  len : ts.length = ks.length
  few : ts.length ≤ 1000
  tups : ∀ (i : Nat) (t : Nat), ts[i]? = some t → ∃ a b, ks[i]? = some (a, b) ∧ H[t]? = some (.tup [.int a, .int b])
noncomputable def forT (s : Stmt) : Expr := (stAll s).1.getD 0 dumX
noncomputable def forB (s : Stmt) : List Stmt := (stAll s).2.1
noncomputable def forE (s : Stmt) : Expr := (stAll s).1.getD 1 dumX
noncomputable def nth (l : List Stmt) (n : Nat) : Stmt := l.getD n (.Pass ⟨0, 0, 0, 0⟩)
noncomputable def cmpE (lv : Nat) : CE := ⟨cmpF.scope, [], lv, 34, "TupleComp.compare" ++ ".<locals>."⟩
theorem cmp_loop {lv : Nat} {H : CH} {l a b : Nat} {x y : List Int} {ts : List Nat} (hl : H[l]? = some (.list (ts.map .loc))) (ha : H[a]? = some (.tup (intL x))) (hb : H[b]? = some (.tup (intL y))) (hx : x.length ≤ 1000) (hy : y.length ≤ 1000) :
    ∀ (ks : List (Int × Int)) (i : Nat) (L : CL), i + ks.length = ts.length → (∀ (j : Nat) (t : Nat), ts[i + j]? = some t → ∃ p q, ks[j]? = some (p, q) ∧ H[t]? = some (.tup [.int p, .int q])) → (∀ p ∈ ks, 0 ≤ p.1 ∧ p.1.toNat < x.length ∧ p.1.toNat < y.length) →
      L.lookup ("left" : Str) = some (.loc a) → L.lookup ("right" : Str) = some (.loc b) →
      ∃ L' f, Fr_ (cmpE lv) (forT (nth cmpF.body 0)) (.list l i) (forB (nth cmpF.body 0)) L H f L' H ∧ (f = .ret (.int (keyCmp ks x y)) ∨ (f = .next ∧ keyCmp ks x y = 0))
  | [], i, L, hi, ht, hk, hL, hR => by
    refine ⟨L, .next, Fr_.done ?_, .inr ⟨rfl, rfl⟩⟩
    have : (ts.map CV.loc)[i]? = none := by rw [List.getElem?_eq_none_iff, List.length_map]; simp at hi; (first | lia | omega)
    simp only [turn, hl, this]
  | (p, q) :: ks, i, L, hi, ht, hk, hL, hR => by
    have hti : i < ts.length := by simp at hi; (first | lia | omega)
    obtain ⟨p', q', e1, e2⟩ := ht 0 ts[i] (by simp [hti])
    cases e1
    obtain ⟨h0, hpx, hpy⟩ := hk (p, q) (.head _)
    have hturn : turn (.list l i) H = some (some ([.loc ts[i]], .list l (i + 1))) := by
      simp only [turn, hl, List.getElem?_map, List.getElem?_eq_getElem hti, Option.map_some]
    have hxv : (intL x)[p.toNat]? = some (.int (x.getD p.toNat 0)) := by simp [intL, hpx]
    have hyv : (intL y)[p.toNat]? = some (.int (y.getD p.toNat 0)) := by simp [intL, hpy]
    have hbind : bindTarget (cmpE lv) (forT (nth cmpF.body 0)) [.loc ts[i]] L H = some ((L.set "index" (.int p)).set "direction" (.int q), H) := by
      exact bt3 e2 (set_local rfl) (set_local rfl)
    have hgx : getItem (.loc a) (.int p) H = some (.int (x.getD p.toNat 0)) := gi_tup ha ⟨h0, by simp [intL]; (first | lia | omega)⟩ hxv
    have hgy : getItem (.loc b) (.int p) H = some (.int (y.getD p.toNat 0)) := gi_tup hb ⟨h0, by simp [intL]; (first | lia | omega)⟩ hyv
    by_cases h1 : x.getD p.toNat 0 < y.getD p.toNat 0
    · have hc : cmpop .Lt (.int (x.getD p.toNat 0)) (.int (y.getD p.toNat 0)) H = some true := by simp only [cmpop, h1, decide_true]
      have key : ∃ L2, Exs (cmpE lv) (forB (nth cmpF.body 0)) ((L.set "index" (.int p)).set "direction" (.int q)) H (.ret (.int (-q))) L2 H := by
        apply Exists.intro
        (apply Exs.cons; walk_at "ex")
        (apply Exs.cons; walk_at "ex")
        apply Exs.ret
        (apply Ex.ite; walk_at "ts")
        apply Exs.ret
        walk_at "ex"
      obtain ⟨L2, key⟩ := key
      refine ⟨_, _, Fr_.ret hturn hbind key, .inl ?_⟩
      unfold keyCmp; rw [if_pos h1]
    · have hc : cmpop .Lt (.int (x.getD p.toNat 0)) (.int (y.getD p.toNat 0)) H = some false := by simp only [cmpop, h1, decide_false]
      by_cases h2 : y.getD p.toNat 0 < x.getD p.toNat 0
      · have hc2 : cmpop .Gt (.int (x.getD p.toNat 0)) (.int (y.getD p.toNat 0)) H = some true := by simp only [cmpop, h2, decide_true]
        have key : ∃ L2, Exs (cmpE lv) (forB (nth cmpF.body 0)) ((L.set "index" (.int p)).set "direction" (.int q)) H (.ret (.int q)) L2 H := by
          apply Exists.intro
          (apply Exs.cons; walk_at "ex")
          (apply Exs.cons; walk_at "ex")
          (apply Exs.cons; apply Ex.ite; walk_at "ts"; exact Exs.nil)
          apply Exs.ret
          (apply Ex.ite; walk_at "ts")
          apply Exs.ret
          walk_at "ex"
        obtain ⟨L2, key⟩ := key
        refine ⟨_, _, Fr_.ret hturn hbind key, .inl ?_⟩
        unfold keyCmp; rw [if_neg h1, if_pos h2]
      · have hc2 : cmpop .Gt (.int (x.getD p.toNat 0)) (.int (y.getD p.toNat 0)) H = some false := by simp only [cmpop, h2, decide_false]
        have key : Exs (cmpE lv) (forB (nth cmpF.body 0)) ((L.set "index" (.int p)).set "direction" (.int q)) H .next ((((L.set "index" (.int p)).set "direction" (.int q)).set "l" (.int (x.getD p.toNat 0))).set "r" (.int (y.getD p.toNat 0))) H := by
          (apply Exs.cons; walk_at "ex")
          (apply Exs.cons; walk_at "ex")
          (apply Exs.cons; apply Ex.ite; walk_at "ts"; exact Exs.nil)
          (apply Exs.cons; apply Ex.ite; walk_at "ts"; exact Exs.nil)
          exact Exs.nil
        obtain ⟨L', f, hr, hf⟩ := cmp_loop hl ha hb hx hy ks (i + 1) ((((L.set "index" (.int p)).set "direction" (.int q)).set "l" (.int (x.getD p.toNat 0))).set "r" (.int (y.getD p.toNat 0))) (by simp at hi ⊢; (first | lia | omega))
          (fun j t e => by
            have := ht (j + 1) t (by rw [← e]; congr 1; (first | lia | omega))
            simpa using this) (fun p m => hk p (.tail _ m)) (by walk_at "lk") (by walk_at "lk")
        refine ⟨L', f, Fr_.next hturn hbind key hr, ?_⟩
        unfold keyCmp; rw [if_neg h1, if_neg h2]
        exact hf
theorem cmp_run {lv : Nat} {H : CH} {n d l a b : Nat} {ks : List (Int × Int)} {ts : List Nat} {x y : List Int} (K : KeysAt H n ks d l ts) (ha : H[a]? = some (.tup (intL x))) (hb : H[b]? = some (.tup (intL y))) (hx : x.length ≤ 1000) (hy : y.length ≤ 1000)
    (hk : ∀ p ∈ ks, 0 ≤ p.1 ∧ p.1.toNat < x.length ∧ p.1.toNat < y.length) : Fn_ cmpF (lv + 1) [.loc n, .loc a, .loc b] H (.int (keyCmp ks x y)) H := by
  obtain ⟨h1, h2, h3, h4, h5, h6⟩ := K
  obtain ⟨L', f, hr, hf⟩ := cmp_loop (lv := lv) h3 ha hb hx hy ks 0 [("self", .loc n), ("left", .loc a), ("right", .loc b)] (by (first | lia | omega)) (fun j t e => by simpa using h6 j t (by simpa using e)) hk rfl rfl
  have src : Sc (cmpE lv) [("self", .loc n), ("left", .loc a), ("right", .loc b)] (forE (nth cmpF.body 0)) H (.list l 0) H := by
    apply Sc.of
    · rfl
    · apply Ev.attr rfl
      · walk_at "ev"
      · exact h1
      · exact h2
    · simp only [iterOf, h3]
  have body : ∃ L2, Exs (cmpE lv) cmpF.body [("self", .loc n), ("left", .loc a), ("right", .loc b)] H (.ret (.int (keyCmp ks x y))) L2 H := by
    rcases hf with rfl | ⟨rfl, hz⟩
    · refine ⟨L', ?_⟩
      exact Exs.ret (Ex.for_ src hr)
    · refine ⟨L', ?_⟩
      apply Exs.cons
      · exact Ex.for_ src hr
      · rw [hz]
        apply Exs.ret
        walk_at "ex"
  obtain ⟨L2, body⟩ := body
  exact Fn_.run (L1 := [("self", .loc n), ("left", .loc a), ("right", .loc b)]) (H1 := H) rfl rfl body
end Mine
end

section
set_option maxRecDepth 100000
set_option linter.unusedVariables false
set_option autoImplicit false
namespace Mine
open PySem
local macro_rules | `(tactic| walk_at "lk") => `(tactic| first | assumption | exact lk_eq | (apply lk_ne (by decide); walk_at "lk") | rfl)
local macro_rules | `(tactic| walk_at "hp") => `(tactic| first | assumption | (apply hp_app; walk_at "hp") | (apply hp_new0; rfl) | (apply hp_new; rfl) | (apply hp_set (by first | decide | (first | lia | omega)); walk_at "hp") | (apply hp_self; walk_at "hp"))
local macro_rules | `(tactic| walk_at "nm") => `(tactic| first | (apply nm_local rfl; walk_at "lk") | (apply nm_cell rfl rfl; walk_at "hp") | (apply nm_free rfl rfl; walk_at "hp") | exact nm_num rfl rfl)
local macro_rules | `(tactic| walk_at "st") => `(tactic| first | exact set_local rfl | (apply set_cell rfl rfl (h0 := by decide); walk_at "hp"))
local macro_rules | `(tactic| walk_at "bt") => `(tactic| first | (apply bt1; walk_at "st") | (apply bt2; walk_at "st"; walk_at "st") | (apply bt3; walk_at "hp"; walk_at "st"; walk_at "st"))
local macro_rules | `(tactic| walk_at "gi") => `(tactic| first | assumption | (apply gi_list; walk_at "hp"; (first | assumption | decide | (simp; done)); (first | assumption | rfl)) | (apply gi_tup; walk_at "hp"; (first | assumption | decide | (simp; done)); (first | assumption | rfl)))
local macro_rules | `(tactic| walk_at "ev") => `(tactic| first
  | exact Ev.int | exact Ev.str | exact Ev.bool | exact Ev.dict0
  | (apply Ev.name; walk_at "nm")
  | (apply Ev.sub rfl; walk_at "ev"; walk_at "ev"; walk_at "gi")
  | (apply Ev.neg; walk_at "ev")
  | (apply Ev.bin; walk_at "ev"; walk_at "ev"; first | assumption | rfl)
  | (apply Ev.cmp rfl; walk_at "ev"; walk_at "ev"; first | assumption | rfl))
local macro_rules | `(tactic| walk_at "ts") => `(tactic| first
  | (apply Ts.cmp rfl; walk_at "ev"; walk_at "ev"; first | assumption | rfl))
local macro_rules | `(tactic| walk_at "ex") => `(tactic| first
  | (apply Ex.set rfl; walk_at "ev"; walk_at "st")
  | (apply Ex.ret; walk_at "ev") | exact Ex.brk)
noncomputable def retE (s : Stmt) : Expr := (stAll s).1.getD 0 dumX
noncomputable def argE (n : Nat) (e : Expr) : Expr := (exAll e).1.getD n dumX
noncomputable def lamB (e : Expr) : Expr := (exAll e).1.getD 0 dumX
noncomputable def lamA (e : Expr) : Arguments := (exAll e).2.2.2.1
noncomputable def lamP (e : Expr) : Pos := (exAll e).2.2.2.2
noncomputable def lamS (e : Expr) : Scope := (exAll e).2.2.1
noncomputable def cmpL (e : Expr) : Expr := (exAll e).1.getD 0 dumX
noncomputable def comS (e : Expr) : Scope := (exAll e).2.2.1
noncomputable def ifE (s : Stmt) : Expr := (stAll s).1.getD 0 dumX
noncomputable def lamX : Expr := argE 1 (retE (nth fstF.body 0))
noncomputable def lamC : Expr := cmpL (lamB lamX)
theorem pre_get' {A B : CH} (p : A <+: B) {n : Nat} {o : CO} (h : A[n]? = some o) : B[n]? = some o := by
  obtain ⟨t, rfl⟩ := p
  exact hp_app h
theorem pre_set {A B : CH} (p : A <+: B) {n : Nat} (o : CO) (h : A.length ≤ n) : A <+: B.set n o := by
  obtain ⟨t, rfl⟩ := p
  rw [List.set_append_right _ _ h]
  exact List.prefix_append _ _
theorem pre_app {A B : CH} (p : A <+: B) (X : CH) : A <+: B ++ X := p.trans (List.prefix_append _ _)
/-- rows: what the tuples hold -/
structure RowsAt (H : CH) (rs : List Nat) (val : Nat → List Int) : Prop where
  few : rs.length ≤ 900
  tup : ∀ r ∈ rs, H[r]? = some (.tup (intL (val r))) ∧ (val r).length = 4
theorem RowsAt.pre {H H' : CH} {rs : List Nat} {val : Nat → List Int} (p : H <+: H') (h : RowsAt H rs val) : RowsAt H' rs val := ⟨h.few, fun r m => ⟨pre_get' p (h.tup r m).1, (h.tup r m).2⟩⟩
theorem KeysAt.pre {H H' : CH} {n d l : Nat} {ks : List (Int × Int)} {ts : List Nat} (p : H <+: H') (h : KeysAt H n ks d l ts) : KeysAt H' n ks d l ts :=
  ⟨pre_get' p h.inst, pre_get' p h.dict, pre_get' p h.list, h.len, h.few, fun i t e => let ⟨a, b, x, y⟩ := h.tups i t e; ⟨a, b, x, pre_get' p y⟩⟩
noncomputable def small4 (ks : List (Int × Int)) : Prop := ∀ p ∈ ks, 0 ≤ p.1 ∧ p.1.toNat < 4
noncomputable def beat (ks : List (Int × Int)) (val : Nat → List Int) (row one : Nat) : Bool := decide (keyCmp ks (val one) (val row) < 0)
noncomputable def comE (cs : List (Str × Nat)) (lv : Nat) : CE := ⟨compScope (comS lamC) ⟨lamS lamX, cs, lv, 0, "_law_first.<locals>.<lambda>.<locals>."⟩, cs, lv, 0, "_law_first.<locals>.<lambda>.<locals>."⟩
/-- the rows that beat this one -/
theorem beat_loop {lv : Nat} {cs : List (Str × Nat)} {R n d l row cr ck : Nat} {ks : List (Int × Int)} {ts all : List Nat} {val : Nat → List Int} (hs : small4 ks) (hk : cs.lookup ("keys" : Str) = some ck) (hr : cs.lookup ("row" : Str) = some cr) :
    ∀ (rs : List Nat) (i acc : Nat) (got : List Nat) (L : CL) (H : CH), i + rs.length = all.length → (∀ j, rs[j]? = all[i + j]?) → H[R]? = some (.list (all.map .loc)) → RowsAt H all val → row ∈ all → KeysAt H n ks d l ts → H[ck]? = some (.cell (some (.loc n))) → H[cr]? = some (.cell (some (.loc row))) →
      H[acc]? = some (.list (got.map .loc)) → got.length + rs.length ≤ 900 → R < acc → (∀ r ∈ all, r < acc) → n < acc → d < acc → l < acc → (∀ t ∈ ts, t < acc) → ck < acc → cr < acc →
      ∃ H', Cm (comE cs (lv + 1)) lamC (.list R i) acc L H H' ∧ H' = H.set acc (.list ((got ++ rs.filter (beat ks val row)).map .loc))
  | [], i, acc, got, L, H, hi, ha, hR, hA, hm, hK, h1, h2, h3, h4, _, _, _, _, _, _, _, _ => by
    refine ⟨H, Cm.done rfl ?_, ?_⟩
    · have : (all.map CV.loc)[i]? = none := by rw [List.getElem?_eq_none_iff, List.length_map]; simp at hi; (first | lia | omega)
      simp only [turn, hR, this]
    · simp only [List.filter_nil, List.append_nil]
      obtain ⟨hl, e⟩ := List.getElem?_eq_some_iff.mp h3
      rw [← e, List.set_getElem_self]
  | r :: rs, i, acc, got, L, H, hi, ha, hR, hA, hm, hK, h1, h2, h3, h4, g1, g2, g3, g4, g5, g6, g7, g8 => by
    have hr0 : all[i]? = some r := by have := ha 0; simpa using this.symm
    have hrm : r ∈ all := List.mem_of_getElem? hr0
    have hturn : turn (.list R i) H = some (some ([.loc r], .list R (i + 1))) := by
      simp only [turn, hR, List.getElem?_map, hr0, Option.map_some]
    have hx := hA.tup r hrm
    have hy := hA.tup row hm
    have hcall : Fn_ cmpF (lv + 1) [.loc n, .loc r, .loc row] H (.int (keyCmp ks (val r) (val row))) H :=
      cmp_run hK hx.1 hy.1 (by (first | lia | omega)) (by (first | lia | omega)) fun p m => ⟨(hs p m).1, by rw [hx.2]; exact (hs p m).2, by rw [hy.2]; exact (hs p m).2⟩
    have kn : getName theT (comE cs (lv + 1)) (L.set "one" (.loc r)) "keys" H = some (.loc n) := nm_free rfl hk h1
    have rn : getName theT (comE cs (lv + 1)) (L.set "one" (.loc r)) "row" H = some (.loc row) := nm_cell rfl hr h2
    have hb : beat ks val row r = decide (keyCmp ks (val r) (val row) < 0) := rfl
    have hturn' := hturn
    cases hbt : beat ks val row r with
    | true =>
      rw [hb] at hbt
      have hcm : cmpop .Lt (.int (keyCmp ks (val r) (val row))) (.int 0) H = some true := by simp only [cmpop, hbt]
      obtain ⟨H', hc, he⟩ := beat_loop hs hk hr rs (i + 1) acc (got ++ [r]) (L.set "one" (.loc r)) (H.set acc (.list (got.map .loc ++ [.loc r]))) (by simp at hi; (first | lia | omega)) (fun j => by have := ha (j + 1); simpa [Nat.add_assoc, Nat.add_comm 1 j] using this)
        (hp_set (by (first | lia | omega)) hR) ⟨hA.few, fun r m => ⟨hp_set (by have := g2 r m; (first | lia | omega)) (hA.tup r m).1, (hA.tup r m).2⟩⟩ hm
        ⟨hp_set (by (first | lia | omega)) hK.inst, hp_set (by (first | lia | omega)) hK.dict, hp_set (by (first | lia | omega)) hK.list, hK.len, hK.few, fun i t e => let ⟨a, b, x, y⟩ := hK.tups i t e; ⟨a, b, x, hp_set (by have := g6 t (List.mem_of_getElem? e); (first | lia | omega)) y⟩⟩
        (hp_set (by (first | lia | omega)) h1) (hp_set (by (first | lia | omega)) h2) (by rw [List.map_append]; exact hp_self h3) (by simp at h4 ⊢; (first | lia | omega)) g1 g2 g3 g4 g5 g6 g7 g8
      refine ⟨H', ?_, ?_⟩
      · apply Cm.add hturn
        · walk_at "bt"
        · show Ts _ _ _ _ _ _
          apply Ts.cmp rfl
          · apply Ev.own rfl rfl (by decide) rfl
            · exact Ev.name kn
            · exact Es.cons rfl (Ev.name (by walk_at "nm")) (Es.cons rfl (Ev.name rn) Es.nil)
            · exact hK.inst
            · exact hK.dict
            · exact hcall
          · exact Ev.int
          · exact hcm
        · walk_at "ev"
        · exact h3
        · simp at h4 ⊢; (first | lia | omega)
        · exact hc
      · rw [he, List.set_set]
        simp [hb, hbt]
    | false =>
      rw [hb] at hbt
      have hcm : cmpop .Lt (.int (keyCmp ks (val r) (val row))) (.int 0) H = some false := by simp only [cmpop, hbt]
      obtain ⟨H', hc, he⟩ := beat_loop hs hk hr rs (i + 1) acc got (L.set "one" (.loc r)) H (by simp at hi; (first | lia | omega)) (fun j => by have := ha (j + 1); simpa [Nat.add_assoc, Nat.add_comm 1 j] using this)
        hR hA hm hK h1 h2 h3 (by simp at h4 ⊢; (first | lia | omega)) g1 g2 g3 g4 g5 g6 g7 g8
      refine ⟨H', ?_, ?_⟩
      · apply Cm.skip hturn
        · walk_at "bt"
        · show Ts _ _ _ _ _ _
          apply Ts.cmp rfl
          · apply Ev.own rfl rfl (by decide) rfl
            · exact Ev.name kn
            · exact Es.cons rfl (Ev.name (by walk_at "nm")) (Es.cons rfl (Ev.name rn) Es.nil)
            · exact hK.inst
            · exact hK.dict
            · exact hcall
          · exact Ev.int
          · exact hcm
        · exact hc
      · rw [he]
        simp [hb, hbt]
noncomputable def splE (lv : Nat) : CE := ⟨splF.scope, [], lv, 62, "_split_list" ++ ".<locals>."⟩
noncomputable def isMin (ks : List (Int × Int)) (val : Nat → List Int) (rs : List Nat) (row : Nat) : Bool := (rs.filter (beat ks val row)).isEmpty
/-- the closure that _law_first hands on -/
structure CloAt (H : CH) (c : Nat) (R n : Nat) : Prop where
  ex : ∃ k cr ck, H[c]? = some (.clo k [("rows", cr), ("keys", ck)] ["row"] (lamB lamX) (lamS lamX)) ∧ H[k]? = some .code ∧ H[cr]? = some (.cell (some (.loc R))) ∧ H[ck]? = some (.cell (some (.loc n)))
theorem CloAt.pre {H H' : CH} {c R n : Nat} (p : H <+: H') (h : CloAt H c R n) : CloAt H' c R n := by
  obtain ⟨k, cr, ck, a, b, d, e⟩ := h.ex
  exact ⟨k, cr, ck, pre_get' p a, pre_get' p b, pre_get' p d, pre_get' p e⟩
theorem lt_of {H : CH} {n : Nat} {o : CO} (h : H[n]? = some o) : n < H.length := (List.getElem?_eq_some_iff.mp h).1
theorem pred_run {lv : Nat} {H : CH} {L : CL} {c R n d l row : Nat} {ks : List (Int × Int)} {ts rs : List Nat} {val : Nat → List Int} (hs : small4 ks) (hC : CloAt H c R n) (hR : H[R]? = some (.list (rs.map .loc))) (hA : RowsAt H rs val) (hK : KeysAt H n ks d l ts) (hm : row ∈ rs)
    (hp : L.lookup ("predicate" : Str) = some (.loc c)) (hx : L.lookup ("x" : Str) = some (.loc row)) :
    Ts (splE (lv + 2)) L (ifE (nth (forB (nth splF.body 2)) 0)) H (isMin ks val rs row) (H ++ [.cell (some (.loc row)), .list ((rs.filter (beat ks val row)).map .loc), .list []]) := by
  obtain ⟨k, cr, ck, hc, hcd, h1, h2⟩ := hC.ex
  have z1 := lt_of hR
  have z2 := lt_of hK.inst
  have z3 := lt_of hK.dict
  have z4 := lt_of hK.list
  have z5 := lt_of h2
  have z6 : ∀ r ∈ rs, r < H.length := fun r m => lt_of (hA.tup r m).1
  have z7 : ∀ t ∈ ts, t < H.length := fun t m => by
    obtain ⟨i, hi, rfl⟩ := List.getElem_of_mem m
    obtain ⟨_, _, _, e⟩ := hK.tups i ts[i] (List.getElem?_eq_getElem hi)
    exact lt_of e
  have hbind : bindAll ⟨lamS lamX, [("row", H.length), ("rows", cr), ("keys", ck)], lv + 1, 0, "_law_first.<locals>.<lambda>.<locals>."⟩ [("row", .loc row)] [] (H ++ [.cell none]) = some ([], H ++ [.cell (some (.loc row))]) := by
    have := set_cell (E := ⟨lamS lamX, [("row", H.length), ("rows", cr), ("keys", ck)], lv + 1, 0, "_law_first.<locals>.<lambda>.<locals>."⟩) (L := []) (H := H ++ [.cell none]) (v := .loc row) (x := "row") (n := H.length) (u := none) rfl rfl (hp_new0 rfl) (by (first | lia | omega))
    simp only [bindAll, this, Option.some.injEq, Prod.mk.injEq, true_and]
    simp
  have pb : H <+: H ++ [CO.cell (some (.loc row))] := List.prefix_append _ _
  have pc : H <+: H ++ [CO.cell (some (.loc row))] ++ [.list []] := pre_app pb _
  have hlen : (H ++ [CO.cell (some (CV.loc row))]).length = H.length + 1 := by simp
  obtain ⟨H', hcm, hH'⟩ := beat_loop (lv := lv) (cs := [("row", H.length), ("keys", ck)]) (R := R) (n := n) (d := d) (l := l) (row := row) (cr := H.length) (ck := ck) (all := rs) hs rfl rfl rs 0 (H.length + 1) [] [] (H ++ [.cell (some (.loc row))] ++ [.list []]) (by (first | lia | omega)) (fun j => by simp)
    (pre_get' pc hR) (hA.pre pc) hm (hK.pre pc) (pre_get' pc h2) (hp_app (hp_new0 rfl)) (by rw [← hlen]; exact hp_new0 rfl) (by have := hA.few; simp; (first | lia | omega)) (by (first | lia | omega)) (fun r m => by have := z6 r m; (first | lia | omega)) (by (first | lia | omega)) (by (first | lia | omega)) (by (first | lia | omega)) (fun t m => by have := z7 t m; (first | lia | omega)) (by (first | lia | omega)) (by (first | lia | omega))
  have hH2 : H' = H ++ [.cell (some (.loc row)), .list ((rs.filter (beat ks val row)).map .loc)] := by
    rw [hH']; simp
  have body : Ev ⟨lamS lamX, [("row", H.length), ("rows", cr), ("keys", ck)], lv + 1, 0, "_law_first.<locals>.<lambda>.<locals>."⟩ [] (lamB lamX) (H ++ [.cell (some (.loc row))]) (.bool (isMin ks val rs row)) (H ++ [.cell (some (.loc row)), .list ((rs.filter (beat ks val row)).map .loc), .list []]) := by
    have e2 : H ++ [.cell (some (.loc row)), .list ((rs.filter (beat ks val row)).map .loc), .list []] = H' ++ [.list []] := by rw [hH2]; simp
    rw [e2]
    apply Ev.cmp rfl
    · apply Ev.listComp rfl
      · apply Sc.of
        · rfl
        · apply Ev.name
          exact nm_free rfl rfl (pre_get' pb h1)
        · simp only [iterOf, pre_get' pb hR]; rfl
      · exact (rfl : compEnv (comS lamC) ⟨lamS lamX, [("row", H.length), ("rows", cr), ("keys", ck)], lv + 1, 0, "_law_first.<locals>.<lambda>.<locals>."⟩ (H ++ [.cell (some (.loc row))] ++ [.list []]) = some (comE [("row", H.length), ("keys", ck)] (lv + 1), H ++ [.cell (some (.loc row))] ++ [.list []]))
      · rw [hlen]; exact hcm
    · exact Ev.list Es.nil (by simp)
    · have g1 : (H' ++ [CO.list []])[H.length + 1]? = some (.list ((rs.filter (beat ks val row)).map .loc)) := by rw [hH2]; simp
      have g2 : (H' ++ [CO.list []])[H'.length]? = some (.list []) := hp_new0 rfl
      rw [hlen]
      simp only [cmpop, g1, g2, isMin]
      cases hq : rs.filter (beat ks val row) with
      | nil => rfl
      | cons a b => rfl
  have call : Ev (splE (lv + 2)) L (ifE (nth (forB (nth splF.body 2)) 0)) H (.bool (isMin ks val rs row)) (H ++ [.cell (some (.loc row)), .list ((rs.filter (beat ks val row)).map .loc), .list []]) := by
    exact Ev.lamCall (lv := lv + 1) rfl rfl hp (Es.cons rfl (Ev.name (nm_local rfl hx)) Es.nil) hc hcd rfl rfl hbind body
  exact Ts.of rfl call rfl
/-- the loop of _split_list -/
theorem spl_loop {lv : Nat} {A : CH} {c R n d l y m : Nat} {ks : List (Int × Int)} {ts all : List Nat} {val : Nat → List Int} (hs : small4 ks) (hC : CloAt A c R n) (hR : A[R]? = some (.list (all.map .loc))) (hA : RowsAt A all val) (hK : KeysAt A n ks d l ts) (hy : A.length ≤ y) (hm : A.length ≤ m) (hym : y ≠ m) :
    ∀ (rs : List Nat) (i : Nat) (ys ns : List Nat) (L : CL) (H : CH), i + rs.length = all.length → (∀ j, rs[j]? = all[i + j]?) → A <+: H → H[y]? = some (.list (ys.map .loc)) → H[m]? = some (.list (ns.map .loc)) → ys.length + ns.length + rs.length ≤ 900 →
      L.lookup ("predicate" : Str) = some (.loc c) → L.lookup ("yes" : Str) = some (.loc y) → L.lookup ("no" : Str) = some (.loc m) →
      ∃ L' H', Fr_ (splE (lv + 2)) (forT (nth splF.body 2)) (.list R i) (forB (nth splF.body 2)) L H .next L' H' ∧ A <+: H' ∧ H'[y]? = some (.list ((ys ++ rs.filter (isMin ks val all)).map .loc)) ∧ H'[m]? = some (.list ((ns ++ rs.filter (fun r => !isMin ks val all r)).map .loc)) ∧
        L'.lookup ("yes" : Str) = some (.loc y) ∧ L'.lookup ("no" : Str) = some (.loc m)
  | [], i, ys, ns, L, H, hi, ha, hp, h1, h2, hz, g1, g2, g3 => by
    refine ⟨L, H, Fr_.done ?_, hp, by simpa using h1, by simpa using h2, g2, g3⟩
    have : (all.map CV.loc)[i]? = none := by rw [List.getElem?_eq_none_iff, List.length_map]; simp at hi; (first | lia | omega)
    simp only [turn, pre_get' hp hR, this]
  | r :: rs, i, ys, ns, L, H, hi, ha, hp, h1, h2, hz, g1, g2, g3 => by
    have hr0 : all[i]? = some r := by have := ha 0; simpa using this.symm
    have hrm : r ∈ all := List.mem_of_getElem? hr0
    have hturn : turn (.list R i) H = some (some ([.loc r], .list R (i + 1))) := by
      simp only [turn, pre_get' hp hR, List.getElem?_map, hr0, Option.map_some]
    have test := pred_run (lv := lv) (L := L.set "x" (.loc r)) hs (hC.pre hp) (pre_get' hp hR) (hA.pre hp) (hK.pre hp) hrm (lk_ne (by decide) g1) lk_eq
    generalize hX : [CO.cell (some (.loc r)), .list ((all.filter (beat ks val r)).map .loc), .list []] = X at test
    have hp2 : A <+: H ++ X := pre_app hp X
    have h1' : (H ++ X)[y]? = some (.list (ys.map .loc)) := hp_app h1
    have h2' : (H ++ X)[m]? = some (.list (ns.map .loc)) := hp_app h2
    have y0 : 0 < A.length := Nat.lt_of_le_of_lt (Nat.zero_le _) (lt_of hR)
    cases hb : isMin ks val all r with
    | true =>
      rw [hb] at test
      have hz1 : (ys.map CV.loc).length ≤ 1000 := by simp at hz ⊢; (first | lia | omega)
      have body : Exs (splE (lv + 2)) (forB (nth splF.body 2)) (L.set "x" (.loc r)) H .next (L.set "x" (.loc r)) ((H ++ X).set y (.list (ys.map .loc ++ [.loc r]))) := by
        apply Exs.cons
        · apply Ex.ite test
          apply Exs.cons
          · apply Ex.exprNone
            exact Ev.append rfl rfl rfl (Ev.name (nm_local rfl (lk_ne (by decide) g2))) (Ev.name (nm_local rfl lk_eq)) h1' h1' (by (first | lia | omega)) hz1
          · exact Exs.nil
        · exact Exs.nil
      obtain ⟨L', H', hr, q1, q2, q3, q4, q5⟩ := spl_loop (lv := lv) hs hC hR hA hK hy hm hym rs (i + 1) (ys ++ [r]) ns (L.set "x" (.loc r)) ((H ++ X).set y (.list (ys.map .loc ++ [.loc r]))) (by simp at hi; (first | lia | omega)) (fun j => by have := ha (j + 1); simpa [Nat.add_assoc, Nat.add_comm 1 j] using this)
        (pre_set hp2 _ hy) (by rw [List.map_append]; exact hp_self h1') (hp_set hym h2') (by simp at hz ⊢; (first | lia | omega)) (lk_ne (by decide) g1) (lk_ne (by decide) g2) (lk_ne (by decide) g3)
      refine ⟨L', H', Fr_.next hturn (bt1 (set_local rfl)) body hr, q1, by rw [q2]; simp [hb], by rw [q3]; simp [hb], q4, q5⟩
    | false =>
      rw [hb] at test
      have hz1 : (ns.map CV.loc).length ≤ 1000 := by simp at hz ⊢; (first | lia | omega)
      have body : Exs (splE (lv + 2)) (forB (nth splF.body 2)) (L.set "x" (.loc r)) H .next (L.set "x" (.loc r)) ((H ++ X).set m (.list (ns.map .loc ++ [.loc r]))) := by
        apply Exs.cons
        · apply Ex.ite test
          apply Exs.cons
          · apply Ex.exprNone
            exact Ev.append rfl rfl rfl (Ev.name (nm_local rfl (lk_ne (by decide) g3))) (Ev.name (nm_local rfl lk_eq)) h2' h2' (by (first | lia | omega)) hz1
          · exact Exs.nil
        · exact Exs.nil
      obtain ⟨L', H', hr, q1, q2, q3, q4, q5⟩ := spl_loop (lv := lv) hs hC hR hA hK hy hm hym rs (i + 1) ys (ns ++ [r]) (L.set "x" (.loc r)) ((H ++ X).set m (.list (ns.map .loc ++ [.loc r]))) (by simp at hi; (first | lia | omega)) (fun j => by have := ha (j + 1); simpa [Nat.add_assoc, Nat.add_comm 1 j] using this)
        (pre_set hp2 _ hm) (hp_set (Ne.symm hym) h1') (by rw [List.map_append]; exact hp_self h2') (by simp at hz ⊢; (first | lia | omega)) (lk_ne (by decide) g1) (lk_ne (by decide) g2) (lk_ne (by decide) g3)
      refine ⟨L', H', Fr_.next hturn (bt1 (set_local rfl)) body hr, q1, by rw [q2]; simp [hb], by rw [q3]; simp [hb], q4, q5⟩
/-- what _split_list gives back -/
structure Parted (A H : CH) (t : Nat) (ys ns : List Nat) : Prop where
  pre : A <+: H
  ex : ∃ y n, H[t]? = some (.tup [.loc y, .loc n]) ∧ H[y]? = some (.list (ys.map .loc)) ∧ H[n]? = some (.list (ns.map .loc)) ∧ A.length ≤ y ∧ A.length ≤ n ∧ A.length ≤ t
theorem spl_run {lv : Nat} {A : CH} {c R n d l : Nat} {ks : List (Int × Int)} {ts rs : List Nat} {val : Nat → List Int} (hs : small4 ks) (hC : CloAt A c R n) (hR : A[R]? = some (.list (rs.map .loc))) (hA : RowsAt A rs val) (hK : KeysAt A n ks d l ts) :
    ∃ t H', Fn_ splF (lv + 3) [.loc R, .loc c] A (.loc t) H' ∧ Parted A H' t (rs.filter (isMin ks val rs)) (rs.filter fun r => !isMin ks val rs r) := by
  have e1 : (A ++ [CO.list []]).length = A.length + 1 := by simp
  obtain ⟨L', H', hr, q1, q2, q3, q4, q5⟩ := spl_loop (lv := lv) (y := A.length) (m := A.length + 1) hs hC hR hA hK (Nat.le_refl _) (Nat.le_succ _) (by (first | lia | omega)) rs 0 [] [] [("s", .loc R), ("predicate", .loc c), ("yes", .loc A.length), ("no", .loc (A.length + 1))] (A ++ [.list []] ++ [.list []]) (by (first | lia | omega)) (fun j => by simp)
    (pre_app (List.prefix_append _ _) _) (hp_app (hp_new0 rfl)) (by rw [← e1]; exact hp_new0 rfl) (by have := hA.few; simp; (first | lia | omega)) rfl rfl rfl
  refine ⟨H'.length, H' ++ [.tup [.loc A.length, .loc (A.length + 1)]], ?_, pre_app q1 _, A.length, A.length + 1, hp_new0 rfl, hp_app (by simpa using q2), hp_app (by simpa using q3), Nat.le_refl _, Nat.le_succ _, (List.IsPrefix.length_le q1)⟩
  have src : Sc (splE (lv + 2)) [("s", .loc R), ("predicate", .loc c), ("yes", .loc A.length), ("no", .loc (A.length + 1))] (forE (nth splF.body 2)) (A ++ [.list []] ++ [.list []]) (.list R 0) (A ++ [.list []] ++ [.list []]) := by
    apply Sc.of
    · rfl
    · exact Ev.name (nm_local rfl rfl)
    · simp only [iterOf, hp_app (hp_app hR)]
  refine Fn_.run (L1 := [("s", .loc R), ("predicate", .loc c)]) (H1 := A) (L2 := L') rfl rfl ?_
  show Exs (splE (lv + 2)) splF.body _ _ _ _ _
  apply Exs.cons
  · exact Ex.set (L2 := [("s", .loc R), ("predicate", .loc c), ("yes", .loc A.length)]) (H2 := A ++ [.list []]) rfl (Ev.list Es.nil (by simp)) rfl
  · apply Exs.cons
    · exact Ex.set (L2 := [("s", .loc R), ("predicate", .loc c), ("yes", .loc A.length), ("no", .loc (A.length + 1))]) (H2 := A ++ [.list []] ++ [.list []]) rfl (Ev.list Es.nil (by simp)) (by rw [e1]; rfl)
    · apply Exs.cons
      · exact Ex.for_ src hr
      · apply Exs.ret
        apply Ex.ret
        exact Ev.tup (Es.cons rfl (Ev.name (nm_local rfl q4)) (Es.cons rfl (Ev.name (nm_local rfl q5)) Es.nil)) (by simp)
theorem codeAt_is : ∀ {H : CH} {i k : Nat}, codeAt H i = some k → i ≤ k ∧ H[k - i]? = some .code
  | [], i, k, h => by cases h
  | o :: H, i, k, h => by
    by_cases hc : o = .code
    · subst hc
      cases h
      simp
    · have h' : codeAt H (i + 1) = some k := by cases o <;> first | exact h | exact absurd rfl hc
      obtain ⟨h1, h2⟩ := codeAt_is h'
      refine ⟨by (first | lia | omega), ?_⟩
      have : k - i = (k - (i + 1)) + 1 := by (first | lia | omega)
      rw [this]
      exact h2
noncomputable def fstE (lv n0 n1 : Nat) : CE := ⟨fstF.scope, [("keys", n1), ("rows", n0)], lv, 95, "_law_first" ++ ".<locals>."⟩
theorem first_run {lv : Nat} {H : CH} {R n d l : Nat} {ks : List (Int × Int)} {ts rs : List Nat} {val : Nat → List Int} (hs : small4 ks) (hR : H[R]? = some (.list (rs.map .loc))) (hA : RowsAt H rs val) (hK : KeysAt H n ks d l ts) :
    ∃ t H', Fn_ fstF (lv + 4) [.loc R, .loc n] H (.loc t) H' ∧ Parted H H' t (rs.filter (isMin ks val rs)) (rs.filter fun r => !isMin ks val rs r) := by
  obtain ⟨n1, hn1⟩ : ∃ n1, n1 = (H ++ [CO.cell none]).length := ⟨_, rfl⟩
  have hn1' : n1 = H.length + 1 := by rw [hn1]; simp
  let cl : List (Str × Nat) := [("rows", H.length), ("keys", n1)]
  have hpos : 0 < H.length := Nat.lt_of_le_of_lt (Nat.zero_le _) (lt_of hR)
  have hb : bindAll (fstE (lv + 3) H.length n1) [("rows", .loc R), ("keys", .loc n)] [] (H ++ [.cell none] ++ [.cell none]) = some ([], H ++ [.cell (some (.loc R)), .cell (some (.loc n))]) := by
    have s1 := set_cell (E := (fstE (lv + 3) H.length n1)) (L := []) (H := H ++ [CO.cell none] ++ [CO.cell none]) (v := .loc R) (x := "rows") (n := H.length) (u := none) rfl rfl (hp_app (hp_new0 rfl)) (by (first | lia | omega))
    have s2 := set_cell (E := (fstE (lv + 3) H.length n1)) (L := []) (H := (H ++ [CO.cell none] ++ [CO.cell none]).set H.length (.cell (some (.loc R)))) (v := .loc n) (x := "keys") (n := n1) (u := none) rfl rfl (hp_set (by (first | lia | omega)) (by rw [hn1]; exact hp_new0 rfl)) (by (first | lia | omega))
    simp only [bindAll]
    rw [s1]
    dsimp only
    rw [s2]
    simp [hn1']
  have pa : H <+: H ++ [CO.cell (some (CV.loc R)), .cell (some (.loc n))] := List.prefix_append _ _
  have gr : (H ++ [CO.cell (some (CV.loc R)), .cell (some (.loc n))])[H.length]? = some (.cell (some (.loc R))) := hp_new0 rfl
  have gk : (H ++ [CO.cell (some (CV.loc R)), .cell (some (.loc n))])[n1]? = some (.cell (some (.loc n))) := by rw [hn1']; exact hp_new rfl
  generalize hA0 : H ++ [CO.cell (some (CV.loc R)), .cell (some (.loc n))] = A0 at hb pa gr gk
  have ok : LamOk (fstE (lv + 3) H.length n1) (lamA lamX) (lamS lamX) (lamP lamX) "row" cl := ⟨rfl, rfl, rfl, rfl, rfl, rfl, rfl, ⟨rfl, _, _, rfl⟩, rfl⟩
  have clo : ∃ c X, Ev (fstE (lv + 3) H.length n1) [] lamX A0 (.loc c) (A0 ++ X) ∧ CloAt (A0 ++ X) c R n := by
    cases hc : codeAt A0 0 with
    | some k =>
      have := (codeAt_is hc).2
      exact ⟨A0.length, [.clo k cl ["row"] (lamB lamX) (lamS lamX)], Ev.lamHit ok hc, ⟨k, H.length, n1, hp_new0 rfl, hp_app (by simpa using this), hp_app gr, hp_app gk⟩⟩
    | none =>
      exact ⟨A0.length + 1, [.code, .clo A0.length cl ["row"] (lamB lamX) (lamS lamX)], Ev.lamNew ok hc, ⟨A0.length, H.length, n1, hp_new rfl, hp_new0 rfl, hp_app gr, hp_app gk⟩⟩
  obtain ⟨c, X, lam, hC⟩ := clo
  have px : H <+: A0 ++ X := pre_app pa X
  obtain ⟨t, H', hr, hp⟩ := spl_run (lv := lv) hs hC (pre_get' px hR) (hA.pre px) (hK.pre px)
  refine ⟨t, H', ?_, ⟨px.trans hp.pre, ?_⟩⟩
  · refine Fn_.run (L1 := []) (H1 := A0) (L2 := []) rfl (by rw [hn1] at hb; exact hb) ?_
    have body : Exs (fstE (lv + 3) H.length n1) fstF.body [] A0 (.ret (.loc t)) [] H' := by
      apply Exs.ret
      apply Ex.ret
      refine Ev.fn (g := splF) rfl rfl rfl ?_ hr
      exact Es.cons rfl (Ev.name (nm_cell rfl rfl gr)) (Es.cons rfl lam Es.nil)
    rw [hn1] at body
    exact body
  · obtain ⟨y, m, a1, a2, a3, a4, a5, a6⟩ := hp.ex
    have := px.length_le
    exact ⟨y, m, a1, a2, a3, by (first | lia | omega), by (first | lia | omega), by (first | lia | omega)⟩
end Mine
end

section
set_option maxRecDepth 100000
set_option linter.unusedVariables false
set_option autoImplicit false
namespace Mine
open PySem
local macro_rules | `(tactic| walk_at "lk") => `(tactic| first | assumption | exact lk_eq | (apply lk_ne (by decide); walk_at "lk") | rfl)
local macro_rules | `(tactic| walk_at "hp") => `(tactic| first | assumption | (apply hp_app; walk_at "hp") | (apply hp_new0; rfl) | (apply hp_new; rfl) | (apply hp_set (by first | decide | (first | lia | omega)); walk_at "hp") | (apply hp_self; walk_at "hp"))
local macro_rules | `(tactic| walk_at "nm") => `(tactic| first | (apply nm_local rfl; walk_at "lk") | (apply nm_cell rfl rfl; walk_at "hp") | (apply nm_free rfl rfl; walk_at "hp") | exact nm_num rfl rfl)
local macro_rules | `(tactic| walk_at "st") => `(tactic| first | exact set_local rfl | (apply set_cell rfl rfl (h0 := by decide); walk_at "hp"))
local macro_rules | `(tactic| walk_at "bt") => `(tactic| first | (apply bt1; walk_at "st") | (apply bt2; walk_at "st"; walk_at "st") | (apply bt3; walk_at "hp"; walk_at "st"; walk_at "st"))
local macro_rules | `(tactic| walk_at "gi") => `(tactic| first | assumption | (apply gi_list; walk_at "hp"; (first | assumption | decide | (simp; done)); (first | assumption | rfl)) | (apply gi_tup; walk_at "hp"; (first | assumption | decide | (simp; done)); (first | assumption | rfl)))
local macro_rules | `(tactic| walk_at "ev") => `(tactic| first
  | exact Ev.int | exact Ev.str | exact Ev.bool | exact Ev.dict0
  | (apply Ev.name; walk_at "nm")
  | (apply Ev.sub rfl; walk_at "ev"; walk_at "ev"; walk_at "gi")
  | (apply Ev.neg; walk_at "ev")
  | (apply Ev.bin; walk_at "ev"; walk_at "ev"; first | assumption | rfl)
  | (apply Ev.cmp rfl; walk_at "ev"; walk_at "ev"; first | assumption | rfl))
local macro_rules | `(tactic| walk_at "ts") => `(tactic| first
  | (apply Ts.cmp rfl; walk_at "ev"; walk_at "ev"; first | assumption | rfl))
local macro_rules | `(tactic| walk_at "ex") => `(tactic| first
  | (apply Ex.set rfl; walk_at "ev"; walk_at "st")
  | (apply Ex.ret; walk_at "ev") | exact Ex.brk)
noncomputable def addE (lv : Nat) : CE := ⟨addF.scope, [], lv, 48, "add_callers" ++ ".<locals>."⟩
theorem cm_in {k : Int} {n ep : Nat} {kvs : List (Int × Int)} {H : CH} (h : H[n]? = some (.dict kvs ep)) : cmpop .In (.int k) (.loc n) H = some (kvs.lookup k).isSome := by simp only [cmpop, h]
theorem turn_items {vals : Bool} {n ep i : Nat} {kvs : List (Int × Int)} {H : CH} {k v : Int} (h : H[n]? = some (.dict kvs ep)) (hz : kvs.length ≤ 1000) (hi : kvs[i]? = some (k, v)) : turn (.items vals n ep kvs.length i) H = some (some (if vals then [.int v] else [.int k, .int v], .items vals n ep kvs.length (i + 1))) := by
  simp only [turn, h, hz, and_self, if_true, hi]
theorem turn_items_end {vals : Bool} {n ep i : Nat} {kvs : List (Int × Int)} {H : CH} (h : H[n]? = some (.dict kvs ep)) (hz : kvs.length ≤ 1000) (hi : kvs[i]? = none) : turn (.items vals n ep kvs.length i) H = some none := by
  simp only [turn, h, hz, and_self, if_true, hi]
theorem add_loop1 {lv a ep : Nat} {H : CH} {all : List (Int × Int)} (ha : H[a]? = some (.dict all ep)) (hz : all.length ≤ 900) (hn : (all.map (·.1)).Nodup) (hk : ∀ p ∈ all, 0 ≤ p.1 ∧ p.1 < 1000) :
    ∀ (rest done : List (Int × Int)) (L : CL), all = done ++ rest → L.lookup ("new_callers" : Str) = some (.loc H.length) →
      ∃ L', Fr_ (addE lv) (forT (nth addF.body 1)) (.items false a ep all.length done.length) (forB (nth addF.body 1)) L (H ++ [.dict done done.length]) .next L' (H ++ [.dict all all.length]) ∧ L'.lookup ("new_callers" : Str) = some (.loc H.length) ∧ ∀ x : Str, x ≠ "func" → x ≠ "caller" → L'.lookup x = L.lookup x
  | [], done, L, e, g => by
    rw [List.append_nil] at e
    subst e
    exact ⟨L, Fr_.done (turn_items_end (hp_app ha) (by (first | lia | omega)) (by simp)), g, fun x _ _ => rfl⟩
  | (k, v) :: rest, done, L, e, g => by
    have hi : all[done.length]? = some (k, v) := by rw [e]; simp
    have ht := turn_items (vals := false) (i := done.length) (hp_app (X := [CO.dict done done.length]) ha) (by (first | lia | omega)) hi
    have hmem : (k, v) ∈ all := List.mem_of_getElem? hi
    have hl : done.lookup k = none := by
      rw [List.lookup_eq_none_iff]
      intro p hp
      rw [e] at hn
      simp only [List.map_append, List.map_cons, List.nodup_append] at hn
      have := hn.2.2 p.1 (List.mem_map_of_mem hp) k (by simp)
      simpa using this.symm
    have hd : (H ++ [CO.dict done done.length])[H.length]? = some (.dict done done.length) := hp_new0 rfl
    have body : Exs (addE lv) (forB (nth addF.body 1)) ((L.set "func" (.int k)).set "caller" (.int v)) (H ++ [.dict done done.length]) .next ((L.set "func" (.int k)).set "caller" (.int v)) ((H ++ [CO.dict done done.length]).set H.length (CO.dict (done ++ [(k, v)]) (done.length + 1))) := by
      apply Exs.cons
      · exact Ex.setKey (j := v) rfl (Ev.name (nm_local rfl lk_eq)) (Ev.name (nm_local rfl (lk_ne (by decide) (lk_ne (by decide) g)))) (Ev.name (nm_local rfl (lk_ne (by decide) lk_eq))) hd
          ⟨by have := lt_of ha; (first | lia | omega), (hk _ hmem).1, (hk _ hmem).2, by have := congrArg List.length e; simp at this; (first | lia | omega), by rw [hl]; rfl⟩
      · exact Exs.nil
    have he : (H ++ [CO.dict done done.length]).set H.length (.dict (done ++ [(k, v)]) (done.length + 1)) = H ++ [.dict (done ++ [(k, v)]) (done ++ [(k, v)]).length] := by simp
    rw [he] at body
    obtain ⟨L', hr, q1, q2⟩ := add_loop1 (lv := lv) ha hz hn hk rest (done ++ [(k, v)]) ((L.set "func" (.int k)).set "caller" (.int v)) (by rw [e]; simp) (lk_ne (by decide) (lk_ne (by decide) g))
    refine ⟨L', Fr_.next ht (bt2 (set_local rfl) (set_local rfl)) body (by simpa using hr), q1, fun x h1 h2 => ?_⟩
    rw [q2 x h1 h2, CL.lookup_set, if_neg h2, CL.lookup_set, if_neg h1]
theorem add_run {lv a b ep ep2 : Nat} {H : CH} {x : List (Int × Int)} {k v : Int} (ha : H[a]? = some (.dict x ep)) (hb : H[b]? = some (.dict [(k, v)] ep2)) (hz : x.length ≤ 900) (hn : (x.map (·.1)).Nodup) (hk : ∀ p ∈ x, 0 ≤ p.1 ∧ p.1 < 1000) (hk2 : 0 ≤ k ∧ k < 1000) (hl : x.lookup k = none) :
    Fn_ addF (lv + 1) [.loc a, .loc b] H (.loc H.length) (H ++ [.dict (x ++ [(k, v)]) (x.length + 1)]) := by
  obtain ⟨L1, hr, q1, q2⟩ := add_loop1 (lv := lv) ha hz hn hk x [] [("target", .loc a), ("source", .loc b), ("new_callers", .loc H.length)] (by simp) rfl
  have src1 : Sc (addE lv) [("target", .loc a), ("source", .loc b), ("new_callers", .loc H.length)] (forE (nth addF.body 1)) (H ++ [.dict [] 0]) (.items false a ep x.length 0) (H ++ [.dict [] 0]) :=
    Sc.view rfl rfl (.inl rfl) (Ev.name (nm_local rfl rfl)) (hp_app ha)
  have hs : L1.lookup ("source" : Str) = some (.loc b) := by rw [q2 _ (by decide) (by decide)]; rfl
  have src2 : Sc (addE lv) L1 (forE (nth addF.body 2)) (H ++ [.dict x x.length]) (.items false b ep2 1 0) (H ++ [.dict x x.length]) :=
    Sc.view (kvs := [(k, v)]) rfl rfl (.inl rfl) (Ev.name (nm_local rfl hs)) (hp_app hb)
  have hd : (H ++ [CO.dict x x.length])[H.length]? = some (.dict x x.length) := hp_new0 rfl
  have h0 : H.length ≠ 0 := by have := lt_of ha; (first | lia | omega)
  have test : Ts (addE lv) ((L1.set "func" (.int k)).set "caller" (.int v)) (ifE (nth (forB (nth addF.body 2)) 0)) (H ++ [.dict x x.length]) false (H ++ [.dict x x.length]) := by
    apply Ts.cmp rfl
    · exact Ev.name (nm_local rfl (lk_ne (by decide) lk_eq))
    · exact Ev.name (nm_local rfl (lk_ne (by decide) (lk_ne (by decide) q1)))
    · rw [cm_in hd, hl]; rfl
  have he : (H ++ [CO.dict x x.length]).set H.length (.dict (x ++ [(k, v)]) (x.length + 1)) = H ++ [.dict (x ++ [(k, v)]) (x.length + 1)] := by simp
  have body2 : Exs (addE lv) (forB (nth addF.body 2)) ((L1.set "func" (.int k)).set "caller" (.int v)) (H ++ [.dict x x.length]) .next ((L1.set "func" (.int k)).set "caller" (.int v)) (H ++ [.dict (x ++ [(k, v)]) (x.length + 1)]) := by
    rw [← he]
    apply Exs.cons
    · apply Ex.ite test
      apply Exs.cons
      · exact Ex.setKey (j := v) rfl (Ev.name (nm_local rfl lk_eq)) (Ev.name (nm_local rfl (lk_ne (by decide) (lk_ne (by decide) q1)))) (Ev.name (nm_local rfl (lk_ne (by decide) lk_eq))) hd ⟨h0, hk2.1, hk2.2, by (first | lia | omega), by rw [hl]; rfl⟩
      · exact Exs.nil
    · exact Exs.nil
  have loop2 : Fr_ (addE lv) (forT (nth addF.body 2)) (.items false b ep2 1 0) (forB (nth addF.body 2)) L1 (H ++ [.dict x x.length]) .next ((L1.set "func" (.int k)).set "caller" (.int v)) (H ++ [.dict (x ++ [(k, v)]) (x.length + 1)]) := by
    refine Fr_.next (turn_items (kvs := [(k, v)]) (hp_app hb) (by simp) rfl) (bt2 (set_local rfl) (set_local rfl)) body2 (Fr_.done ?_)
    exact turn_items_end (kvs := [(k, v)]) (hp_app hb) (by simp) rfl
  refine Fn_.run (L1 := [("target", .loc a), ("source", .loc b)]) (H1 := H) (L2 := (L1.set "func" (.int k)).set "caller" (.int v)) rfl rfl ?_
  show Exs (addE lv) addF.body _ _ _ _ _
  apply Exs.cons
  · exact Ex.set (L2 := [("target", .loc a), ("source", .loc b), ("new_callers", .loc H.length)]) rfl Ev.dict0 rfl
  · apply Exs.cons
    · exact Ex.for_ src1 hr
    · apply Exs.cons
      · exact Ex.for_ src2 loop2
      · apply Exs.ret
        apply Ex.ret
        exact Ev.name (nm_local rfl (lk_ne (by decide) (lk_ne (by decide) q1)))
noncomputable def cntE (lv : Nat) : CE := ⟨cntF.scope, [], lv, 55, "count_calls" ++ ".<locals>."⟩
theorem cnt_loop {lv a ep : Nat} {H : CH} {all : List (Int × Int)} (ha : H[a]? = some (.dict all ep)) (hz : all.length ≤ 900) : ∀ (rest done : List (Int × Int)) (L : CL) (c : Int), all = done ++ rest → L.lookup ("nc" : Str) = some (.int c) →
      ∃ L', Fr_ (cntE lv) (forT (nth cntF.body 1)) (.items true a ep all.length done.length) (forB (nth cntF.body 1)) L H .next L' H ∧ L'.lookup ("nc" : Str) = some (.int (c + (rest.map (·.2)).sum))
  | [], done, L, c, e, g => by
    rw [List.append_nil] at e
    subst e
    exact ⟨L, Fr_.done (turn_items_end ha (by (first | lia | omega)) (by simp)), by simpa using g⟩
  | (k, v) :: rest, done, L, c, e, g => by
    have hi : all[done.length]? = some (k, v) := by rw [e]; simp
    have ht := turn_items (vals := true) (i := done.length) ha (by (first | lia | omega)) hi
    have body : Exs (cntE lv) (forB (nth cntF.body 1)) (L.set "calls" (.int v)) H .next ((L.set "calls" (.int v)).set "nc" (.int (c + v))) H := by
      apply Exs.cons
      · refine Ex.aug (nm_local rfl (lk_ne (by decide) g)) (Ev.name (nm_local rfl lk_eq)) (set_local rfl)
      · exact Exs.nil
    obtain ⟨L', hr, q⟩ := cnt_loop (lv := lv) ha hz rest (done ++ [(k, v)]) ((L.set "calls" (.int v)).set "nc" (.int (c + v))) (c + v) (by rw [e]; simp) lk_eq
    refine ⟨L', Fr_.next ht (bt1 (set_local rfl)) body (by simpa using hr), ?_⟩
    rw [q]
    simp [Int.add_assoc]
theorem cnt_run {lv a ep : Nat} {H : CH} {x : List (Int × Int)} (ha : H[a]? = some (.dict x ep)) (hz : x.length ≤ 900) : Fn_ cntF (lv + 1) [.loc a] H (.int ((x.map (·.2)).sum)) H := by
  obtain ⟨L1, hr, q⟩ := cnt_loop (lv := lv) ha hz x [] [("callers", .loc a), ("nc", .int 0)] 0 (by simp) rfl
  have src : Sc (cntE lv) [("callers", .loc a), ("nc", .int 0)] (forE (nth cntF.body 1)) H (.items true a ep x.length 0) H :=
    Sc.view rfl rfl (.inr rfl) (Ev.name (nm_local rfl rfl)) ha
  refine Fn_.run (L1 := [("callers", .loc a)]) (H1 := H) (L2 := L1) rfl rfl ?_
  show Exs (cntE lv) cntF.body _ _ _ _ _
  apply Exs.cons
  · exact Ex.set (L2 := [("callers", .loc a), ("nc", .int 0)]) rfl Ev.int rfl
  · apply Exs.cons
    · exact Ex.for_ src hr
    · apply Exs.ret
      apply Ex.ret
      rw [Int.zero_add] at q
      exact Ev.name (nm_local rfl q)
end Mine
end

section
set_option maxRecDepth 100000
set_option linter.unusedVariables false
set_option autoImplicit false
namespace Mine
open PySem
local macro_rules | `(tactic| walk_at "lk") => `(tactic| first | assumption | exact lk_eq | (apply lk_ne (by decide); walk_at "lk") | rfl)
local macro_rules | `(tactic| walk_at "hp") => `(tactic| first | assumption | (apply hp_app; walk_at "hp") | (apply hp_new0; rfl) | (apply hp_new; rfl) | (apply hp_set (by first | decide | (first | lia | omega)); walk_at "hp") | (apply hp_self; walk_at "hp"))
local macro_rules | `(tactic| walk_at "nm") => `(tactic| first | (apply nm_local rfl; walk_at "lk") | (apply nm_cell rfl rfl; walk_at "hp") | (apply nm_free rfl rfl; walk_at "hp") | exact nm_num rfl rfl)
local macro_rules | `(tactic| walk_at "st") => `(tactic| first | exact set_local rfl | (apply set_cell rfl rfl (h0 := by decide); walk_at "hp"))
local macro_rules | `(tactic| walk_at "bt") => `(tactic| first | (apply bt1; walk_at "st") | (apply bt2; walk_at "st"; walk_at "st") | (apply bt3; walk_at "hp"; walk_at "st"; walk_at "st"))
local macro_rules | `(tactic| walk_at "gi") => `(tactic| first | assumption | (apply gi_list; walk_at "hp"; (first | assumption | decide | (simp; done)); (first | assumption | rfl)) | (apply gi_tup; walk_at "hp"; (first | assumption | decide | (simp; done)); (first | assumption | rfl)))
local macro_rules | `(tactic| walk_at "ev") => `(tactic| first
  | exact Ev.int | exact Ev.str | exact Ev.bool | exact Ev.dict0
  | (apply Ev.name; walk_at "nm")
  | (apply Ev.sub rfl; walk_at "ev"; walk_at "ev"; walk_at "gi")
  | (apply Ev.neg; walk_at "ev")
  | (apply Ev.bin; walk_at "ev"; walk_at "ev"; first | assumption | rfl)
  | (apply Ev.cmp rfl; walk_at "ev"; walk_at "ev"; first | assumption | rfl))
local macro_rules | `(tactic| walk_at "ts") => `(tactic| first
  | (apply Ts.cmp rfl; walk_at "ev"; walk_at "ev"; first | assumption | rfl))
local macro_rules | `(tactic| walk_at "ex") => `(tactic| first
  | (apply Ex.set rfl; walk_at "ev"; walk_at "st")
  | (apply Ex.ret; walk_at "ev") | exact Ex.brk)
noncomputable def stbE (lv : Nat) : CE := ⟨stbF.scope, [], lv, 102, "_law_stable" ++ ".<locals>."⟩
/-- the tables that _law_stable reads -/
structure TabsAt (H : CH) (N D : Nat) (P Q : Nat → List Int) : Prop where
  ex : ∃ n d : Nat → Nat, H[N]? = some (.list [.loc (n 0), .loc (n 1), .loc (n 2)]) ∧ H[D]? = some (.list [.loc (d 0), .loc (d 1), .loc (d 2)]) ∧ (∀ i, i < 3 → H[n i]? = some (.list (intL (P i)))) ∧ ∀ j, j < 3 → H[d j]? = some (.list (intL (Q j)))
  lp : ∀ i, i < 3 → (P i).length ≤ 1000 ∧ ∀ j ∈ P i, 0 ≤ j ∧ j < 3
  lq : ∀ j, j < 3 → (Q j).length ≤ 1000 ∧ ∀ i : Int, 0 ≤ i → i < 3 → i ∈ Q j
theorem TabsAt.pre {H H' : CH} {N D : Nat} {P Q : Nat → List Int} (p : H <+: H') (h : TabsAt H N D P Q) : TabsAt H' N D P Q := by
  obtain ⟨n, d, a, b, c, e⟩ := h.ex
  exact ⟨⟨n, d, pre_get' p a, pre_get' p b, fun i hi => pre_get' p (c i hi), fun j hj => pre_get' p (e j hj)⟩, h.lp, h.lq⟩
noncomputable def goRow (ms : List Int) (Q : Nat → List Int) (i : Nat) : List Int → Bool
  | [] => true
  | j :: r => if j = ms.getD i 0 then true else if (Q j.toNat).idxOf (i : Int) < (Q j.toNat).idxOf ((ms.idxOf j : Nat) : Int) then false else goRow ms Q i r
noncomputable def stableB (ms : List Int) (P Q : Nat → List Int) : Bool := goRow ms Q 0 (P 0) && goRow ms Q 1 (P 1) && goRow ms Q 2 (P 2)
theorem list3 {a b c : Nat} {f : Nat → Nat} {i : Nat} (hi : i < 3) : ([CV.loc (f 0), .loc (f 1), .loc (f 2)] : List CV)[i]? = some (.loc (f i)) := by
  rcases i with _ | _ | _ | i <;> first | rfl | (first | lia | omega)
theorem stb_row {lv : Nat} {H : CH} {M N D i ni : Nat} {a b c : Int} {P Q : Nat → List Int} (hM : H[M]? = some (.tup [.int a, .int b, .int c])) (T : TabsAt H N D P Q) (hi : i < 3) (hmem : ∀ j : Int, 0 ≤ j → j < 3 → j ∈ [a, b, c]) (hn : H[ni]? = some (.list (intL (P i)))) :
    ∀ (rest done : List Int) (L : CL), P i = done ++ rest → L.lookup ("mates" : Str) = some (.loc M) → L.lookup ("nearest" : Str) = some (.loc N) → L.lookup ("dearest" : Str) = some (.loc D) → L.lookup ("i" : Str) = some (.int i) →
      ∃ L', Fr_ (stbE lv) (forT (nth (forB (nth stbF.body 0)) 0)) (.list ni done.length) (forB (nth (forB (nth stbF.body 0)) 0)) L H (if goRow [a, b, c] Q i rest then .next else .ret (.bool false)) L' H ∧ ∀ x : Str, x ≠ "j" → L'.lookup x = L.lookup x
  | [], done, L, e, g1, g2, g3, g4 => by
    refine ⟨L, Fr_.done ?_, fun _ _ => rfl⟩
    have : (intL (P i))[done.length]? = none := by rw [e]; simp [intL]
    simp only [turn, hn, this]
  | j :: rest, done, L, e, g1, g2, g3, g4 => by
    have hj := (T.lp i hi).2 j (by rw [e]; simp)
    have hji : (intL (P i))[done.length]? = some (.int j) := by rw [e]; simp [intL]
    have ht : turn (.list ni done.length) H = some (some ([.int j], .list ni (done.length + 1))) := by simp only [turn, hn, hji]
    obtain ⟨n, d, e1, e2, e3, e4⟩ := T.ex
    have kj : j.toNat < 3 := by (first | lia | omega)
    have mi : ([CV.int a, .int b, .int c] : List CV)[((i : Nat) : Int).toNat]? = some (.int (([a, b, c] : List Int).getD i 0)) := by
      rcases i with _ | _ | _ | i <;> first | rfl | (first | lia | omega)
    by_cases h1 : j = ([a, b, c] : List Int).getD i 0
    · have hg : goRow [a, b, c] Q i (j :: rest) = true := by unfold goRow; rw [if_pos h1]
      rw [hg, if_pos rfl]
      have hc : cmpop .Eq (.int j) (.int (([a, b, c] : List Int).getD i 0)) H = some true := by simp only [cmpop, ← h1, decide_true]
      have body : Exs (stbE lv) (forB (nth (forB (nth stbF.body 0)) 0)) (L.set "j" (.int j)) H .brk (L.set "j" (.int j)) H := by
        apply Exs.brk
        apply Ex.ite
        · apply Ts.cmp rfl
          · exact Ev.name (nm_local rfl lk_eq)
          · exact Ev.sub rfl (Ev.name (nm_local rfl (lk_ne (by decide) g1))) (Ev.name (nm_local rfl (lk_ne (by decide) g4))) (gi_tup hM ⟨by (first | lia | omega), by simp⟩ mi)
          · exact hc
        · apply Exs.brk
          exact Ex.brk
      exact ⟨_, Fr_.brk ht (bt1 (set_local rfl)) body, fun x hx => by rw [CL.lookup_set, if_neg hx]⟩
    · have hc : cmpop .Eq (.int j) (.int (([a, b, c] : List Int).getD i 0)) H = some false := by simp only [cmpop, h1, decide_false]
      have dj : ([CV.loc (d 0), .loc (d 1), .loc (d 2)] : List CV)[j.toNat]? = some (.loc (d j.toNat)) := list3 (a := 0) (b := 0) (c := 0) kj
      have hd := e4 j.toNat kj
      have hq := T.lq j.toNat kj
      have hjm : j ∈ [a, b, c] := hmem j hj.1 hj.2
      have hidx : ([a, b, c] : List Int).idxOf j < 3 := by have := List.idxOf_lt_length_of_mem hjm; simpa using this
      have x1 : ∀ {p q r : Pos}, Ev (stbE lv) (L.set "j" (.int j)) (.Subscript (.Name "dearest" p) (.Name "j" q) r) H (.loc (d j.toNat)) H := fun {p q r} =>
        Ev.sub rfl (Ev.name (nm_local rfl (lk_ne (by decide) g3))) (Ev.name (nm_local rfl lk_eq)) (gi_list e2 ⟨hj.1, by simp⟩ dj)
      have test : ∀ z, cmpop .Lt (.int ((Q j.toNat).idxOf (i : Int) : Nat)) (.int ((Q j.toNat).idxOf ((([a, b, c] : List Int).idxOf j : Nat) : Int) : Nat)) H = some z →
          Ts (stbE lv) (L.set "j" (.int j)) (ifE (nth (forB (nth (forB (nth stbF.body 0)) 0)) 1)) H z H := fun z hz => by
        apply Ts.cmp rfl
        · exact Ev.index rfl rfl rfl x1 (Ev.name (nm_local rfl (lk_ne (by decide) g4))) hd hq.1 (hq.2 i (by (first | lia | omega)) (by (first | lia | omega)))
        · exact Ev.index rfl rfl rfl x1 (Ev.indexT rfl rfl rfl (Ev.name (nm_local rfl (lk_ne (by decide) g1))) (Ev.name (nm_local rfl lk_eq)) hM hjm) hd hq.1 (hq.2 _ (by (first | lia | omega)) (by (first | lia | omega)))
        · exact hz
      have test0 : Ts (stbE lv) (L.set "j" (.int j)) (ifE (nth (forB (nth (forB (nth stbF.body 0)) 0)) 0)) H false H := by
        apply Ts.cmp rfl
        · exact Ev.name (nm_local rfl lk_eq)
        · exact Ev.sub rfl (Ev.name (nm_local rfl (lk_ne (by decide) g1))) (Ev.name (nm_local rfl (lk_ne (by decide) g4))) (gi_tup hM ⟨by (first | lia | omega), by simp⟩ mi)
        · exact hc
      by_cases h2 : (Q j.toNat).idxOf (i : Int) < (Q j.toNat).idxOf ((([a, b, c] : List Int).idxOf j : Nat) : Int)
      · have hg : goRow [a, b, c] Q i (j :: rest) = false := by unfold goRow; rw [if_neg h1, if_pos h2]
        rw [hg, if_neg (by simp)]
        have hz : cmpop .Lt (.int ((Q j.toNat).idxOf (i : Int) : Nat)) (.int ((Q j.toNat).idxOf ((([a, b, c] : List Int).idxOf j : Nat) : Int) : Nat)) H = some true := by simp only [cmpop, Int.ofNat_lt, h2, decide_true]
        have body : Exs (stbE lv) (forB (nth (forB (nth stbF.body 0)) 0)) (L.set "j" (.int j)) H (.ret (.bool false)) (L.set "j" (.int j)) H := by
          apply Exs.cons
          · exact Ex.ite test0 Exs.nil
          · apply Exs.ret
            apply Ex.ite (test _ hz)
            apply Exs.ret
            exact Ex.ret Ev.bool
        exact ⟨_, Fr_.ret ht (bt1 (set_local rfl)) body, fun x hx => by rw [CL.lookup_set, if_neg hx]⟩
      · have hg : goRow [a, b, c] Q i (j :: rest) = goRow [a, b, c] Q i rest := by conv => lhs; unfold goRow; rw [if_neg h1, if_neg h2]
        rw [hg]
        have hz : cmpop .Lt (.int ((Q j.toNat).idxOf (i : Int) : Nat)) (.int ((Q j.toNat).idxOf ((([a, b, c] : List Int).idxOf j : Nat) : Int) : Nat)) H = some false := by simp only [cmpop, Int.ofNat_lt, h2, decide_false]
        have body : Exs (stbE lv) (forB (nth (forB (nth stbF.body 0)) 0)) (L.set "j" (.int j)) H .next (L.set "j" (.int j)) H := by
          apply Exs.cons
          · exact Ex.ite test0 Exs.nil
          · apply Exs.cons
            · exact Ex.ite (test _ hz) Exs.nil
            · exact Exs.nil
        obtain ⟨L', hr, q⟩ := stb_row (lv := lv) hM T hi hmem hn rest (done ++ [j]) (L.set "j" (.int j)) (by rw [e]; simp) (lk_ne (by decide) g1) (lk_ne (by decide) g2) (lk_ne (by decide) g3) (lk_ne (by decide) g4)
        refine ⟨L', Fr_.next ht (bt1 (set_local rfl)) body (by simpa using hr), fun x hx => ?_⟩
        rw [q x hx, CL.lookup_set, if_neg hx]
theorem stb_outer {lv : Nat} {H : CH} {M N D : Nat} {a b c : Int} {P Q : Nat → List Int} (hM : H[M]? = some (.tup [.int a, .int b, .int c])) (T : TabsAt H N D P Q) (hmem : ∀ j : Int, 0 ≤ j → j < 3 → j ∈ [a, b, c]) :
    ∀ (left i : Nat) (L : CL), i + left = 3 → L.lookup ("mates" : Str) = some (.loc M) → L.lookup ("nearest" : Str) = some (.loc N) → L.lookup ("dearest" : Str) = some (.loc D) →
      ∃ L', Fr_ (stbE lv) (forT (nth stbF.body 0)) (.range i 1 left) (forB (nth stbF.body 0)) L H (if (List.range' i left).all (fun i => goRow [a, b, c] Q i (P i)) then .next else .ret (.bool false)) L' H
  | 0, i, L, e, g1, g2, g3 => ⟨L, Fr_.done rfl⟩
  | left + 1, i, L, e, g1, g2, g3 => by
    obtain ⟨n, d, e1, e2, e3, e4⟩ := T.ex
    have hi : i < 3 := by (first | lia | omega)
    have ht : turn (.range (i : Int) 1 (left + 1)) H = some (some ([.int i], .range ((i : Int) + 1) 1 left)) := rfl
    obtain ⟨L1, hr, q⟩ := stb_row (lv := lv) hM T hi hmem (e3 i hi) (P i) [] (L.set "i" (.int i)) (by simp) (lk_ne (by decide) g1) (lk_ne (by decide) g2) (lk_ne (by decide) g3) lk_eq
    have ni : ([CV.loc (n 0), .loc (n 1), .loc (n 2)] : List CV)[((i : Nat) : Int).toNat]? = some (.loc (n i)) := list3 (a := 0) (b := 0) (c := 0) hi
    have src : Sc (stbE lv) (L.set "i" (.int i)) (forE (nth (forB (nth stbF.body 0)) 0)) H (.list (n i) 0) H := by
      apply Sc.of
      · rfl
      · exact Ev.sub rfl (Ev.name (nm_local rfl (lk_ne (by decide) g2))) (Ev.name (nm_local rfl lk_eq)) (gi_list e1 ⟨by (first | lia | omega), by simp⟩ ni)
      · simp only [iterOf, e3 i hi]
    rw [List.range'_succ, List.all_cons]
    cases hg : goRow [a, b, c] Q i (P i) with
    | false =>
      rw [hg, if_neg (by simp)] at hr
      refine ⟨L1, ?_⟩
      rw [Bool.false_and, if_neg (by simp)]
      apply Fr_.ret ht (bt1 (set_local rfl))
      apply Exs.ret
      exact Ex.for_ src hr
    | true =>
      rw [hg, if_pos rfl] at hr
      obtain ⟨L', hr2⟩ := stb_outer (lv := lv) hM T hmem left (i + 1) L1 (by (first | lia | omega)) (by rw [q _ (by decide)]; exact lk_ne (by decide) g1) (by rw [q _ (by decide)]; exact lk_ne (by decide) g2) (by rw [q _ (by decide)]; exact lk_ne (by decide) g3)
      refine ⟨L', ?_⟩
      rw [Bool.true_and]
      apply Fr_.next ht (bt1 (set_local rfl))
      · apply Exs.cons
        · exact Ex.for_ src hr
        · exact Exs.nil
      · exact hr2
theorem stb_run {lv : Nat} {H : CH} {M N D : Nat} {a b c : Int} {P Q : Nat → List Int} (hM : H[M]? = some (.tup [.int a, .int b, .int c])) (T : TabsAt H N D P Q) (hmem : ∀ j : Int, 0 ≤ j → j < 3 → j ∈ [a, b, c]) :
    Fn_ stbF (lv + 1) [.loc M, .loc N, .loc D] H (.bool (stableB [a, b, c] P Q)) (H ++ [.range 0 3 1]) := by
  have p : H <+: H ++ [CO.range 0 3 1] := List.prefix_append _ _
  obtain ⟨L', hr⟩ := stb_outer (lv := lv) (pre_get' p hM) (T.pre p) hmem 3 0 [("mates", .loc M), ("nearest", .loc N), ("dearest", .loc D)] rfl rfl rfl rfl
  have he : (List.range' 0 3).all (fun i => goRow [a, b, c] Q i (P i)) = stableB [a, b, c] P Q := by simp [stableB, List.range'_succ, Bool.and_assoc]
  rw [he] at hr
  have src : Sc (stbE lv) [("mates", .loc M), ("nearest", .loc N), ("dearest", .loc D)] (forE (nth stbF.body 0)) H (.range 0 1 3) (H ++ [.range 0 3 1]) := by
    apply Sc.of
    · rfl
    · exact Ev.bi (vs := [.int 3]) rfl rfl rfl rfl (Es.cons rfl Ev.int Es.nil) .range1
    · simp only [iterOf, hp_new0 (H := H) (X := [CO.range 0 3 1]) rfl]
      rfl
  refine Fn_.run (L1 := [("mates", .loc M), ("nearest", .loc N), ("dearest", .loc D)]) (H1 := H) (L2 := L') rfl rfl ?_
  show Exs (stbE lv) stbF.body _ _ _ _ _
  cases hs : stableB [a, b, c] P Q with
  | true =>
    rw [hs, if_pos rfl] at hr
    apply Exs.cons
    · exact Ex.for_ src hr
    · apply Exs.ret
      exact Ex.ret Ev.bool
  | false =>
    rw [hs, if_neg (by simp)] at hr
    apply Exs.ret
    exact Ex.for_ src hr
end Mine
end

section
set_option maxRecDepth 100000
set_option linter.unusedVariables false
set_option autoImplicit false
namespace Mine
section
variable {a b e : Int} {p q r : Prop}
theorem lex_trans (h : a < b ∨ (a = b ∧ p)) (g : b < e ∨ (b = e ∧ q)) (k : p → q → r) : a < e ∨ (a = e ∧ r) :=
  h.elim (fun h => .inl (g.elim (Int.lt_trans h) fun g => g.1 ▸ h)) fun h => g.elim (fun g => .inl (h.1 ▸ g)) fun g => .inr ⟨h.1.trans g.1, k h.2 g.2⟩
theorem lex_transG (h : b < a ∨ (a = b ∧ p)) (g : e < b ∨ (b = e ∧ q)) (k : p → q → r) : e < a ∨ (a = e ∧ r) :=
  (lex_trans (g.imp id fun g => ⟨g.1.symm, g.2⟩) (h.imp id fun h => ⟨h.1.symm, h.2⟩) fun y x => k x y).imp id fun h => ⟨h.1.symm, h.2⟩
theorem lex_asym (h : a < b ∨ (a = b ∧ p)) (g : b < a ∨ (b = a ∧ q)) (k : p → q → False) : False :=
  (lex_trans h g k).elim (Int.lt_irrefl a) (·.2)
theorem lex_asymG (h : b < a ∨ (a = b ∧ p)) (g : a < b ∨ (b = a ∧ q)) (k : p → q → False) : False :=
  (lex_transG h g k).elim (Int.lt_irrefl a) (·.2)
theorem lex_tri (h : p ∨ q) : (a < b ∨ (a = b ∧ p)) ∨ (b < a ∨ (b = a ∧ q)) :=
  (Int.lt_trichotomy a b).elim (fun h => .inl (.inl h)) fun g => g.elim (fun e => h.elim (fun x => .inl (.inr ⟨e, x⟩)) fun x => .inr (.inr ⟨e.symm, x⟩)) fun h => .inr (.inl h)
theorem lex_triG (h : p ∨ q) : (b < a ∨ (a = b ∧ p)) ∨ (a < b ∨ (b = a ∧ q)) :=
  (Int.lt_trichotomy a b).elim (fun h => .inr (.inl h)) fun g => g.elim (fun e => h.elim (fun x => .inl (.inr ⟨e, x⟩)) fun x => .inr (.inr ⟨e.symm, x⟩)) fun h => .inl (.inl h)
end
theorem four3' : ∀ a b e w : Fin 3, a ≠ w → b ≠ w → e ≠ w → a ≠ b → a ≠ e → ¬ b ≠ e := by decide
theorem four3 {a b e w : Nat} (ha : a < 3) (hb : b < 3) (he : e < 3) (hw : w < 3) (h1 : a ≠ w) (h2 : b ≠ w) (h3 : e ≠ w) (h4 : a ≠ b) (h5 : a ≠ e) (h6 : b ≠ e) : False :=
  have n {x y : Nat} {hx : x < 3} {hy : y < 3} (h : x ≠ y) : (⟨x, hx⟩ : Fin 3) ≠ ⟨y, hy⟩ := fun z => h (Fin.mk.inj z)
  four3' ⟨a, ha⟩ ⟨b, hb⟩ ⟨e, he⟩ ⟨w, hw⟩ (n h1) (n h2) (n h3) (n h4) (n h5) (n h6)
section
variable (c d : Nat → Nat → Int)
/-- i likes j better than k -/
noncomputable def Nl (i j k : Nat) : Prop := d i j < d i k ∨ (d i j = d i k ∧ j < k)
/-- j likes i better than k -/
noncomputable def Dl (j i k : Nat) : Prop := c k j < c i j ∨ (c i j = c k j ∧ (d i j < d k j ∨ (d i j = d k j ∧ k < i)))
variable {c d}
theorem Nl.tri (i : Nat) {j k : Nat} (h : j ≠ k) : Nl d i j k ∨ Nl d i k j := lex_tri (Nat.lt_or_gt_of_ne h)
theorem Nl.asym {i j k : Nat} (h : Nl d i j k) : ¬ Nl d i k j := fun g => lex_asym h g Nat.lt_asymm
theorem Nl.irr {i j : Nat} : ¬ Nl d i j j := fun h => h.asym h
theorem Nl.trans {i j k l : Nat} (h : Nl d i j k) (g : Nl d i k l) : Nl d i j l := lex_trans h g Nat.lt_trans
theorem Dl.tri (j : Nat) {i k : Nat} (h : i ≠ k) : Dl c d j i k ∨ Dl c d j k i := lex_triG (lex_tri (Nat.lt_or_gt_of_ne h).symm)
theorem Dl.asym {j i k : Nat} (h : Dl c d j i k) : ¬ Dl c d j k i := fun g => lex_asymG h g fun p q => lex_asym p q Nat.lt_asymm
theorem Dl.irr {j i : Nat} : ¬ Dl c d j i i := fun h => h.asym h
theorem Dl.trans {j i k l : Nat} (h : Dl c d j i k) (g : Dl c d j k l) : Dl c d j i l := lex_transG h g fun p q => lex_trans p q fun a b => Nat.lt_trans b a
variable (c d)
/-- no two that aren't together like each other better -/
structure Stab (m w : Nat → Nat) : Prop where
  m3 : ∀ i, i < 3 → m i < 3
  w3 : ∀ j, j < 3 → w j < 3
  wm : ∀ i, i < 3 → w (m i) = i
  mw : ∀ j, j < 3 → m (w j) = j
  st : ∀ i j, i < 3 → j < 3 → Nl d i j (m i) → ¬ Dl c d j i (w j)
structure St where
  A : Nat → Nat → Bool
  hd : Nat → Option Nat
  fr : List Nat
  ak : Nat → List Nat
  n : Nat
/-- what holds between the turns -/
structure Inv (s : St) : Prop where
  pre : ∀ i j k, i < 3 → j < 3 → k < 3 → s.A i j = true → Nl d i k j → s.A i k = true
  hold : ∀ j i, j < 3 → s.hd j = some i → i < 3 ∧ s.A i j = true ∧ ∀ k, k < 3 → s.A i k = true → k = j ∨ Nl d i k j
  best : ∀ i j, i < 3 → j < 3 → s.A i j = true → ∃ k, s.hd j = some k ∧ (k = i ∨ Dl c d j k i)
  free : ∀ i, i < 3 → (i ∈ s.fr ↔ ∀ j, j < 3 → s.hd j ≠ some i)
  nd : s.fr.Nodup
  f3 : ∀ i ∈ s.fr, i < 3
  rej : ∀ m w, Stab c d m w → ∀ i j, i < 3 → j < 3 → s.A i j = true → s.hd j ≠ some i → m i ≠ j
  and_ : ∀ j, j < 3 → (s.ak j).Nodup ∧ ∀ i, i ∈ s.ak j ↔ i < 3 ∧ s.A i j = true
  cnt : s.n = (s.ak 0).length + (s.ak 1).length + (s.ak 2).length
variable {c d}
theorem nodup_le3 {l : List Nat} (h : l.Nodup) (h3 : ∀ i ∈ l, i < 3) : l.length ≤ 3 := by
  have : l ⊆ [0, 1, 2] := fun i m => by
    have := h3 i m
    have : i = 0 ∨ i = 1 ∨ i = 2 := by (first | lia | omega)
    rcases this with rfl | rfl | rfl <;> simp
  exact (List.Nodup.length_le_of_subset h this : l.length ≤ [0, 1, 2].length)
end
noncomputable def dlB (c d : Nat → Nat → Int) (j i k : Nat) : Bool := decide (c k j < c i j) || (decide (c i j = c k j) && (decide (d i j < d k j) || (decide (d i j = d k j) && decide (k < i))))
theorem dlB_iff {c d : Nat → Nat → Int} {j i k : Nat} : dlB c d j i k = true ↔ Dl c d j i k := by
  unfold dlB Dl
  simp only [Bool.or_eq_true, Bool.and_eq_true, decide_eq_true_eq]
noncomputable def upd {α : Type} (f : Nat → α) (j : Nat) (v : α) : Nat → α := fun b => if b = j then v else f b
theorem upd_self {α : Type} (f : Nat → α) (j : Nat) (v : α) : upd f j v j = v := by simp [upd]
theorem upd_ne {α : Type} (f : Nat → α) {j b : Nat} (v : α) (h : b ≠ j) : upd f j v b = f b := by simp [upd, h]
noncomputable def St.ask (s : St) (who j : Nat) : Nat → Nat → Bool := fun a b => if a = who ∧ b = j then true else s.A a b
/-- who asks j, which keeps win; lose: whom it sends away -/
noncomputable def St.turn (s : St) (k who j win : Nat) (lose : List Nat) : St := ⟨s.ask who j, upd s.hd j (some win), s.fr.eraseIdx k ++ lose, upd s.ak j (s.ak j ++ [who]), s.n + 1⟩
noncomputable def winner (c d : Nat → Nat → Int) (s : St) (who j : Nat) : Nat × List Nat := match s.hd j with
  | none => (who, [])
  | some i => if dlB c d j who i then (who, [i]) else (i, [who])
theorem mem_erase {l : List Nat} (h : l.Nodup) {k who : Nat} (e : l[k]? = some who) (i : Nat) : i ∈ l.eraseIdx k ↔ i ∈ l ∧ i ≠ who := by
  have hk : k < l.length := (List.getElem?_eq_some_iff.mp e).1
  have hw : l[k] = who := (List.getElem?_eq_some_iff.mp e).2
  rw [List.mem_eraseIdx_iff_getElem]
  have inj := List.pairwise_iff_getElem.mp h
  constructor
  · rintro ⟨m, hm, hne, rfl⟩
    refine ⟨List.getElem_mem hm, fun z => ?_⟩
    rcases Nat.lt_or_gt_of_ne hne with l1 | l1
    · exact inj m k hm hk l1 (z.trans hw.symm)
    · exact inj k m hk hm l1 (hw.trans z.symm)
  · rintro ⟨hm, hne⟩
    obtain ⟨m, hm', rfl⟩ := List.getElem_of_mem hm
    exact ⟨m, hm', fun z => hne (by subst z; exact hw), rfl⟩
section
variable {c d : Nat → Nat → Int}
theorem nodup1 {a : Nat} : [a].Nodup := List.nodup_cons.mpr ⟨fun h => (nomatch h), List.nodup_nil⟩
/-- what asking does: who stays, who goes -/
inductive Mv (c d : Nat → Nat → Int) (s : St) (who j : Nat) : Nat → List Nat → Prop
  | new : s.hd j = none → Mv c d s who j who []
  | in_ (i : Nat) : s.hd j = some i → i ≠ who → Dl c d j who i → Mv c d s who j who [i]
  | out (i : Nat) : s.hd j = some i → i ≠ who → Dl c d j i who → Mv c d s who j i [who]
theorem mv_winner {s : St} {who j : Nat} (hf : s.hd j ≠ some who) : Mv c d s who j (winner c d s who j).1 (winner c d s who j).2 := by
  unfold winner
  split
  · rename_i h; exact .new h
  · rename_i i h
    have ne : i ≠ who := fun z => hf (z ▸ h)
    split
    · rename_i hb; exact .in_ i h ne (dlB_iff.mp hb)
    · rename_i hb
      exact .out i h ne ((Dl.tri j ne).elim id fun g => absurd (dlB_iff.mpr g) hb)
theorem ask_iff {s : St} {who j a b : Nat} : s.ask who j a b = true ↔ (a = who ∧ b = j) ∨ s.A a b = true := by
  unfold St.ask
  by_cases e : a = who ∧ b = j
  · rw [if_pos e]; exact ⟨fun _ => .inl e, fun _ => rfl⟩
  · rw [if_neg e]; exact ⟨.inr, fun h => h.elim (fun z => absurd z e) id⟩
structure Tn (c d : Nat → Nat → Int) (s : St) (who j win : Nat) (lose : List Nat) : Prop where
  I : Inv c d s
  w3 : who < 3
  hj : j < 3
  hf : ∀ b, b < 3 → s.hd b ≠ some who
  last : ∀ b, b < 3 → s.A who b = true → b ≠ j ∧ Nl d who b j
  hmin : ∀ b, b < 3 → s.A who b = false → b ≠ j → Nl d who j b
  mv : Mv c d s who j win lose
section
variable {s : St} {who j win : Nat} {lose : List Nat}
/-- one name is kept by one place only -/
theorem Inv.one (I : Inv c d s) {i j k : Nat} (hj : j < 3) (hk : k < 3) (a : s.hd j = some i) (b : s.hd k = some i) : j = k :=
  ((I.hold j i hj a).2.2 k hk (I.hold k i hk b).2.1).elim Eq.symm fun e => ((I.hold k i hk b).2.2 j hj (I.hold j i hj a).2.1).elim id fun g => absurd g e.asym
theorem Tn.pre (T : Tn c d s who j win lose) {i b e : Nat} (hi : i < 3) (hb : b < 3) (he : e < 3) (h : s.ask who j i b = true) (g : Nl d i e b) : s.ask who j i e = true :=
  ask_iff.mpr (.inr ((ask_iff.mp h).elim (fun z => by
    cases hz : s.A i e with
    | true => rfl
    | false =>
      obtain ⟨rfl, rfl⟩ := z
      exact absurd (T.hmin e he hz fun z => Nl.irr (z ▸ g)) g.asym) fun h => T.I.pre i b e hi hb he h g))
theorem Tn.mine (T : Tn c d s who j win lose) {b : Nat} (hb : b < 3) (h : s.ask who j who b = true) : b = j ∨ Nl d who b j :=
  (ask_iff.mp h).elim (fun z => .inl z.2) fun h => .inr (T.last b hb h).2
theorem Tn.won (T : Tn c d s who j win lose) : win < 3 ∧ s.ask who j win j = true ∧ ∀ b, b < 3 → s.ask who j win b = true → b = j ∨ Nl d win b j :=
  match T.mv with
  | .new _ => ⟨T.w3, ask_iff.mpr (.inl ⟨rfl, rfl⟩), fun _ => T.mine⟩
  | .in_ _ _ _ _ => ⟨T.w3, ask_iff.mpr (.inl ⟨rfl, rfl⟩), fun _ => T.mine⟩
  | .out i h ne _ => ⟨(T.I.hold j i T.hj h).1, ask_iff.mpr (.inr (T.I.hold j i T.hj h).2.1), fun b hb g => (ask_iff.mp g).elim (fun z => absurd z.1 ne) fun g => (T.I.hold j i T.hj h).2.2 b hb g⟩
theorem Tn.hold (T : Tn c d s who j win lose) {b i : Nat} (hb : b < 3) (h : upd s.hd j (some win) b = some i) : i < 3 ∧ s.ask who j i b = true ∧ ∀ k, k < 3 → s.ask who j i k = true → k = b ∨ Nl d i k b := by
  by_cases e : b = j
  · subst e
    rw [upd_self] at h
    cases h
    exact T.won
  · rw [upd_ne _ _ e] at h
    have a := T.I.hold b i hb h
    exact ⟨a.1, ask_iff.mpr (.inr a.2.1), fun x hx g => (ask_iff.mp g).elim (fun z => absurd (z.1 ▸ h) (T.hf b hb)) fun g => a.2.2 x hx g⟩
theorem Tn.best (T : Tn c d s who j win lose) {i b : Nat} (hi : i < 3) (hb : b < 3) (h : s.ask who j i b = true) : ∃ k, upd s.hd j (some win) b = some k ∧ (k = i ∨ Dl c d b k i) := by
  by_cases e : b = j
  · subst e
    refine ⟨win, upd_self _ _ _, ?_⟩
    rcases ask_iff.mp h with z | h
    · have z := z.1
      exact match T.mv with
        | .new _ => .inl z.symm
        | .in_ _ _ _ _ => .inl z.symm
        | .out _ _ _ g => .inr (z ▸ g)
    · obtain ⟨x, hx, g⟩ := T.I.best i b hi hb h
      exact match T.mv with
        | .new q => nomatch hx.symm.trans q
        | .in_ y hy _ g2 => .inr (g.elim (fun z => z ▸ Option.some.inj (hy.symm.trans hx) ▸ g2) fun g => g2.trans (Option.some.inj (hx.symm.trans hy) ▸ g))
        | .out y hy _ _ => Option.some.inj (hx.symm.trans hy) ▸ g
  · obtain ⟨x, hx, g⟩ := T.I.best i b hi hb ((ask_iff.mp h).resolve_left fun z => e z.2)
    exact ⟨x, (upd_ne _ _ e).trans hx, g⟩
theorem Tn.free (T : Tn c d s who j win lose) {i : Nat} : ((∀ b, b < 3 → s.hd b ≠ some i) ∧ i ≠ who ∨ i ∈ lose) ↔ ∀ b, b < 3 → upd s.hd j (some win) b ≠ some i := by
  have put : (∀ b, b < 3 → upd s.hd j (some win) b ≠ some i) ↔ win ≠ i ∧ ∀ b, b < 3 → b ≠ j → s.hd b ≠ some i :=
    ⟨fun h => ⟨fun z => h j T.hj (by rw [upd_self, z]), fun b hb e z => h b hb ((upd_ne _ _ e).trans z)⟩, fun h b hb z => by
      by_cases e : b = j
      · rw [e, upd_self] at z; exact h.1 (Option.some.inj z)
      · rw [upd_ne _ _ e] at z; exact h.2 b hb e z⟩
  rw [put]
  have old : (∀ b, b < 3 → s.hd b ≠ some i) ↔ s.hd j ≠ some i ∧ ∀ b, b < 3 → b ≠ j → s.hd b ≠ some i :=
    ⟨fun h => ⟨h j T.hj, fun b hb _ => h b hb⟩, fun h b hb => by
      by_cases e : b = j
      · rw [e]; exact h.1
      · exact h.2 b hb e⟩
  rw [old]
  exact match T.mv with
    | .new q => ⟨fun h => h.elim (fun h => ⟨fun z => h.2 z.symm, h.1.2⟩) fun h => (nomatch h), fun h => .inl ⟨⟨fun z => (nomatch q.symm.trans z), h.2⟩, fun z => h.1 z.symm⟩⟩
    | .in_ y hy ny _ => ⟨fun h => h.elim (fun h => ⟨fun z => h.2 z.symm, h.1.2⟩) fun h => by cases List.mem_singleton.mp h; exact ⟨fun z => ny z.symm, fun b hb e z => e (T.I.one hb T.hj z hy)⟩,
        fun h => if e : i = y then .inr (List.mem_singleton.mpr e) else .inl ⟨⟨fun z => e (Option.some.inj (z.symm.trans hy)), h.2⟩, fun z => h.1 z.symm⟩⟩
    | .out y hy ny _ => ⟨fun h => h.elim (fun h => ⟨fun z => h.1.1 (z ▸ hy), h.1.2⟩) fun h => by cases List.mem_singleton.mp h; exact ⟨ny, fun b hb _ => T.hf b hb⟩,
        fun h => if e : i = who then .inr (List.mem_singleton.mpr e) else .inl ⟨⟨fun z => h.1 (Option.some.inj (hy.symm.trans z)), h.2⟩, e⟩⟩
theorem Tn.lost (T : Tn c d s who j win lose) : lose.Nodup ∧ ∀ i ∈ lose, i < 3 ∧ (i = who ∨ s.hd j = some i) :=
  match T.mv with
  | .new _ => ⟨List.nodup_nil, fun _ h => (nomatch h)⟩
  | .in_ y hy _ _ => ⟨nodup1, fun i h => by cases List.mem_singleton.mp h; exact ⟨(T.I.hold j _ T.hj hy).1, .inr hy⟩⟩
  | .out _ _ _ _ => ⟨nodup1, fun i h => by cases List.mem_singleton.mp h; exact ⟨T.w3, .inl rfl⟩⟩
/-- whom j likes less than the one it keeps now, no stable way gives to j -/
theorem Tn.core (T : Tn c d s who j win lose) {m w : Nat → Nat} (S : Stab c d m w) {l : Nat} (hl : l < 3) (nl : l ≠ win) (hd : Dl c d j win l) (hm : m l = j) : False := by
  have wl : w j = l := hm ▸ S.wm l hl
  have mw3 := S.m3 win T.won.1
  have nj : m win ≠ j := fun z => nl (wl.symm.trans (z ▸ S.wm win T.won.1))
  rcases Nl.tri (d := d) win (Ne.symm nj) with q | q
  · exact S.st win j T.won.1 T.hj q (wl.symm ▸ hd)
  · refine T.I.rej m w S win (m win) T.won.1 mw3 ((ask_iff.mp (T.pre T.won.1 T.hj mw3 T.won.2.1 q)).resolve_left fun z => nj z.2) (fun z => ?_) rfl
    exact match T.mv with
      | .new _ => T.hf _ mw3 z
      | .in_ _ _ _ _ => T.hf _ mw3 z
      | .out y hy _ _ => nj (T.I.one mw3 T.hj z hy)
theorem Tn.rej (T : Tn c d s who j win lose) {m w : Nat → Nat} (S : Stab c d m w) {i b : Nat} (hi : i < 3) (hb : b < 3) (h : s.ask who j i b = true) (hne : upd s.hd j (some win) b ≠ some i) (hm : m i = b) : False := by
  by_cases e : b = j
  · subst e
    rw [upd_self] at hne
    have nl : i ≠ win := fun z => hne (by rw [z])
    have core : Dl c d b win i → False := fun g => T.core S hi nl g hm
    rcases ask_iff.mp h with z | h
    · have z := z.1
      exact match T.mv, nl, core with
        | .new _, nl, _ => nl z
        | .in_ _ _ _ _, nl, _ => nl z
        | .out _ _ _ g, _, core => core (z ▸ g)
    · by_cases hq : s.hd b = some i
      · exact match T.mv, nl, core with
          | .new q, _, _ => nomatch q.symm.trans hq
          | .in_ y hy _ g, _, core => core (Option.some.inj (hy.symm.trans hq) ▸ g)
          | .out y hy _ _, nl, _ => nl (Option.some.inj (hq.symm.trans hy))
      · exact T.I.rej m w S i b hi hb h hq hm
  · rw [upd_ne _ _ e] at hne
    exact T.I.rej m w S i b hi hb ((ask_iff.mp h).resolve_left fun z => e z.2) hne hm
theorem Tn.ak (T : Tn c d s who j win lose) {b : Nat} (hb : b < 3) : (upd s.ak j (s.ak j ++ [who]) b).Nodup ∧ ∀ i, i ∈ upd s.ak j (s.ak j ++ [who]) b ↔ i < 3 ∧ s.ask who j i b = true := by
  have n := T.I.and_ b hb
  by_cases e : b = j
  · subst e
    rw [upd_self]
    have nw : who ∉ s.ak b := fun m => (T.last b hb ((n.2 who).mp m).2).1 rfl
    refine ⟨List.nodup_append.mpr ⟨n.1, nodup1, fun a ha x hx z => nw (List.mem_singleton.mp hx ▸ z ▸ ha)⟩, fun i => ?_⟩
    rw [List.mem_append, List.mem_singleton, n.2 i, ask_iff]
    exact ⟨fun h => h.elim (fun h => ⟨h.1, .inr h.2⟩) fun h => by cases h; exact ⟨T.w3, .inl ⟨rfl, rfl⟩⟩, fun h => h.2.elim (fun z => .inr z.1) fun g => .inl ⟨h.1, g⟩⟩
  · rw [upd_ne _ _ e]
    refine ⟨n.1, fun i => ?_⟩
    rw [n.2 i, ask_iff]
    exact ⟨fun h => ⟨h.1, .inr h.2⟩, fun h => ⟨h.1, h.2.resolve_left fun z => e z.2⟩⟩
end
theorem upd_len {f : Nat → List Nat} {j w : Nat} (hj : j < 3) : (upd f j (f j ++ [w]) 0).length + (upd f j (f j ++ [w]) 1).length + (upd f j (f j ++ [w]) 2).length = (f 0).length + (f 1).length + (f 2).length + 1 := by
  have : j = 0 ∨ j = 1 ∨ j = 2 := by (first | lia | omega)
  rcases this with rfl | rfl | rfl
  · rw [upd_self, upd_ne _ _ (by decide), upd_ne _ _ (by decide), List.length_append]; show _ + 1 + _ + _ = _; (first | lia | omega)
  · rw [upd_self, upd_ne _ _ (by decide), upd_ne _ _ (by decide), List.length_append]; show _ + (_ + 1) + _ = _; (first | lia | omega)
  · rw [upd_self, upd_ne _ _ (by decide), upd_ne _ _ (by decide), List.length_append]; rfl
theorem Inv.turn {s : St} (I : Inv c d s) {k who j : Nat} (hk : s.fr[k]? = some who) (hj : j < 3) (hA : s.A who j = false) (hmin : ∀ b, b < 3 → s.A who b = false → b ≠ j → Nl d who j b) : Inv c d (s.turn k who j (winner c d s who j).1 (winner c d s who j).2) := by
  have hw : who ∈ s.fr := List.mem_of_getElem? hk
  have w3 := I.f3 who hw
  have hf := (I.free who w3).mp hw
  have me := mem_erase I.nd hk
  have T : Tn c d s who j (winner c d s who j).1 (winner c d s who j).2 := ⟨I, w3, hj, hf, fun b hb h => by
    have ne : b ≠ j := fun z => by rw [z, hA] at h; cases h
    exact ⟨ne, (Nl.tri who ne).elim id fun g => by have := I.pre who b j w3 hb hj h g; rw [hA] at this; cases this⟩, hmin, mv_winner (hf j hj)⟩
  exact {
    pre := fun i b e hi hb he => T.pre hi hb he
    hold := fun b i hb => T.hold hb
    best := fun i b hi hb => T.best hi hb
    free := fun i hi => by
      show i ∈ s.fr.eraseIdx k ++ _ ↔ ∀ b, b < 3 → upd s.hd j (some (winner c d s who j).1) b ≠ some i
      rw [← T.free, ← I.free i hi, List.mem_append, me i]
    nd := List.nodup_append.mpr ⟨I.nd.sublist (List.eraseIdx_sublist _ _), T.lost.1, fun a ha b hb z => by
      subst z
      have ha := (me a).mp ha
      exact (T.lost.2 a hb).2.elim ha.2 ((I.free a (I.f3 a ha.1)).mp ha.1 j hj)⟩
    f3 := fun i hi => (List.mem_append.mp hi).elim (fun hi => I.f3 i ((me i).mp hi).1) fun hi => (T.lost.2 i hi).1
    rej := fun m w S i b hi hb h hne => T.rej S hi hb h hne
    and_ := fun b hb => T.ak hb
    cnt := (congrArg (· + 1) I.cnt).trans (upd_len hj).symm }
theorem Inv.some_left {s : St} (I : Inv c d s) {who : Nat} (hw : who ∈ s.fr) : ∃ j, j < 3 ∧ s.A who j = false := by
  have w3 := I.f3 who hw
  have hf := (I.free who w3).mp hw
  refine Classical.byContradiction fun hn => ?_
  have all : ∀ j, j < 3 → s.A who j = true := fun j hj => by
    cases h : s.A who j with
    | true => rfl
    | false => exact absurd ⟨j, hj, h⟩ hn
  obtain ⟨a, ha, _⟩ := I.best who 0 w3 (by decide) (all 0 (by decide))
  obtain ⟨b, hb, _⟩ := I.best who 1 w3 (by decide) (all 1 (by decide))
  obtain ⟨e, he, _⟩ := I.best who 2 w3 (by decide) (all 2 (by decide))
  have a3 := (I.hold 0 a (by decide) ha).1
  have b3 := (I.hold 1 b (by decide) hb).1
  have e3 := (I.hold 2 e (by decide) he).1
  have na : a ≠ who := fun z => hf 0 (by decide) (z ▸ ha)
  have nb : b ≠ who := fun z => hf 1 (by decide) (z ▸ hb)
  have ne : e ≠ who := fun z => hf 2 (by decide) (z ▸ he)
  have ab : a ≠ b := fun z => absurd (I.one (by decide) (by decide) ha (z ▸ hb)) (by decide)
  have ae : a ≠ e := fun z => absurd (I.one (by decide) (by decide) ha (z ▸ he)) (by decide)
  have be : b ≠ e := fun z => absurd (I.one (by decide) (by decide) hb (z ▸ he)) (by decide)
  exact four3 a3 b3 e3 w3 na nb ne ab ae be
theorem Inv.n_le {s : St} (I : Inv c d s) : s.n ≤ 9 := by
  have h : ∀ j, j < 3 → (s.ak j).length ≤ 3 := fun j hj => nodup_le3 (I.and_ j hj).1 fun i hi => (((I.and_ j hj).2 i).mp hi).1
  have := h 0 (by decide)
  have := h 1 (by decide)
  have := h 2 (by decide)
  have := I.cnt
  (first | lia | omega)
end
end Mine
end

section
set_option maxRecDepth 100000
set_option linter.unusedVariables false
set_option autoImplicit false
namespace Mine
open PySem
local macro_rules | `(tactic| walk_at "lk") => `(tactic| first | assumption | exact lk_eq | (apply lk_ne (by decide); walk_at "lk") | rfl)
local macro_rules | `(tactic| walk_at "hp") => `(tactic| first | assumption | (apply hp_app; walk_at "hp") | (apply hp_new0; rfl) | (apply hp_new; rfl) | (apply hp_set (by first | decide | (first | lia | omega)); walk_at "hp") | (apply hp_self; walk_at "hp"))
local macro_rules | `(tactic| walk_at "nm") => `(tactic| first | (apply nm_local rfl; walk_at "lk") | (apply nm_cell rfl rfl; walk_at "hp") | (apply nm_free rfl rfl; walk_at "hp") | exact nm_num rfl rfl)
local macro_rules | `(tactic| walk_at "st") => `(tactic| first | exact set_local rfl | (apply set_cell rfl rfl (h0 := by decide); walk_at "hp"))
local macro_rules | `(tactic| walk_at "bt") => `(tactic| first | (apply bt1; walk_at "st") | (apply bt2; walk_at "st"; walk_at "st") | (apply bt3; walk_at "hp"; walk_at "st"; walk_at "st"))
local macro_rules | `(tactic| walk_at "gi") => `(tactic| first | assumption | (apply gi_list; walk_at "hp"; (first | assumption | decide | (simp; done)); (first | assumption | rfl)) | (apply gi_tup; walk_at "hp"; (first | assumption | decide | (simp; done)); (first | assumption | rfl)))
local macro_rules | `(tactic| walk_at "ev") => `(tactic| first
  | exact Ev.int | exact Ev.str | exact Ev.bool | exact Ev.dict0
  | (apply Ev.name; walk_at "nm")
  | (apply Ev.sub rfl; walk_at "ev"; walk_at "ev"; walk_at "gi")
  | (apply Ev.neg; walk_at "ev")
  | (apply Ev.bin; walk_at "ev"; walk_at "ev"; first | assumption | rfl)
  | (apply Ev.cmp rfl; walk_at "ev"; walk_at "ev"; first | assumption | rfl))
local macro_rules | `(tactic| walk_at "ts") => `(tactic| first
  | (apply Ts.cmp rfl; walk_at "ev"; walk_at "ev"; first | assumption | rfl))
local macro_rules | `(tactic| walk_at "ex") => `(tactic| first
  | (apply Ex.set rfl; walk_at "ev"; walk_at "st")
  | (apply Ex.ret; walk_at "ev") | exact Ex.brk)
noncomputable def lawE : CE := ⟨lawF.scope, [("best", 8), ("stable", 7), ("dearest", 6), ("nearest", 5), ("j", 4), ("rows", 3), ("calls", 2), ("signs", 1)], 6, 107, "law" ++ ".<locals>."⟩
/-- what is kept but at K -/
structure Up (K : List Nat) (H H' : CH) : Prop where
  len : H.length ≤ H'.length
  keep : ∀ n o, n ∉ K → H[n]? = some o → H'[n]? = some o
theorem Up.refl {K : List Nat} (H : CH) : Up K H H := ⟨Nat.le_refl _, fun _ _ _ h => h⟩
theorem Up.trans {K : List Nat} {H H' H'' : CH} (a : Up K H H') (b : Up K H' H'') : Up K H H'' := ⟨Nat.le_trans a.len b.len, fun n o k h => b.keep n o k (a.keep n o k h)⟩
theorem Up.app {K : List Nat} {H : CH} (X : CH) : Up K H (H ++ X) := ⟨by simp, fun n o _ h => hp_app h⟩
theorem Up.set {K : List Nat} {H : CH} {n : Nat} (o : CO) (h : n ∈ K) : Up K H (H.set n o) := ⟨by simp, fun m x k e => hp_set (fun z => k (z ▸ h)) e⟩
theorem Up.of_pre {K : List Nat} {H H' : CH} (p : H <+: H') : Up K H H' := ⟨p.length_le, fun n o _ h => pre_get' p h⟩
theorem Up.wide {K K' : List Nat} {H H' : CH} (u : Up K H H') (h : ∀ n ∈ K, n ∈ K' ∨ H.length ≤ n) : Up K' H H' := ⟨u.len, fun n o k e => u.keep n o (fun m => (h n m).elim k fun z => absurd (lt_of e) (Nat.not_lt.mpr z)) e⟩
theorem Cm.push {E : CE} {L L1 : CL} {H X X1 X2 : CH} {H4 : CH} {e t iter : Expr} {ifs : List Expr} {sc : Scope} {p : Pos} {it it' : CIt} {vs xs : List CV} {v : CV} (ht : turn it (H ++ .list xs :: X) = some (some (vs, it'))) (hb : bindTarget E t vs L (H ++ .list xs :: X) = some (L1, H ++ .list xs :: X1))
    (hi : Tst E L1 ifs (H ++ .list xs :: X1) true (H ++ .list xs :: X1)) (he : Ev E L1 e (H ++ .list xs :: X1) v (H ++ .list xs :: X2)) (hz : H.length ≠ 0 ∧ xs.length ≤ 1000)
    (hr : Cm E (.ListComp e [⟨t, iter, ifs, 0⟩] sc p) it' H.length L1 (H ++ .list (xs ++ [v]) :: X2) H4) : Cm E (.ListComp e [⟨t, iter, ifs, 0⟩] sc p) it H.length L (H ++ .list xs :: X) H4 := by
  refine Cm.add ht hb hi he (xs := xs) (hp_new0 rfl) hz ?_
  have : (H ++ CO.list xs :: X2).set H.length (.list (xs ++ [v])) = H ++ .list (xs ++ [v]) :: X2 := by simp
  rw [this]
  exact hr
theorem Cm.pass {E : CE} {L L1 : CL} {H X X1 : CH} {H4 : CH} {e t iter : Expr} {ifs : List Expr} {sc : Scope} {p : Pos} {it it' : CIt} {vs xs : List CV} (ht : turn it (H ++ .list xs :: X) = some (some (vs, it'))) (hb : bindTarget E t vs L (H ++ .list xs :: X) = some (L1, H ++ .list xs :: X1))
    (hi : Tst E L1 ifs (H ++ .list xs :: X1) false (H ++ .list xs :: X1))
    (hr : Cm E (.ListComp e [⟨t, iter, ifs, 0⟩] sc p) it' H.length L1 (H ++ .list xs :: X1) H4) : Cm E (.ListComp e [⟨t, iter, ifs, 0⟩] sc p) it H.length L (H ++ .list xs :: X) H4 :=
  Cm.skip ht hb hi hr
theorem turn_list {H : CH} {n i : Nat} {xs : List CV} {v : CV} (h : H[n]? = some (.list xs)) (hi : xs[i]? = some v) : turn (.list n i) H = some (some ([v], .list n (i + 1))) := by simp only [turn, h, hi]
theorem turn_list_end {H : CH} {n i : Nat} {xs : List CV} (h : H[n]? = some (.list xs)) (hi : xs[i]? = none) : turn (.list n i) H = some none := by simp only [turn, h, hi]
theorem it_list {H : CH} {n : Nat} {xs : List CV} (h : H[n]? = some (.list xs)) : iterOf (.loc n) H = some (.list n 0) := by simp only [iterOf, h]
noncomputable def asgE (s : Stmt) : Expr := (stAll s).1.getD 0 dumX
noncomputable def eltE (e : Expr) : Expr := (exAll e).1.getD 0 dumX
noncomputable def ifsE (e : Expr) : List Expr := ((exAll e).2.1.map (·.ifs)).getD 0 []
noncomputable def genI (e : Expr) : Expr := ((exAll e).2.1.map (·.iter)).getD 0 dumX
theorem Ev.upto' {E : CE} {L : CL} {H H1 H2 : CH} {o hi : Expr} {p q : Pos} {k : Int} {n : Nat} {xs ys : List CV} (h1 : Ev E L o H (.loc n) H1) (h2 : Ev E L hi H1 (.int k) H2) (h3 : H2[n]? = some (.list xs)) (h4 : 0 ≤ k ∧ xs.length ≤ 1000) (h5 : xs.take k.toNat = ys) :
    Ev E L (.Subscript o (.Slice none (some hi) none q) p) H (.loc H2.length) (H2 ++ [.list ys]) := by
  subst h5
  exact Ev.upto h1 h2 h3 h4
theorem bin_list {H : CH} {m n : Nat} {xs ys : List CV} (h1 : H[m]? = some (.list xs)) (h2 : H[n]? = some (.list ys)) (hz : xs.length + ys.length ≤ 1000) : binop .Add (.loc m) (.loc n) H = some (.loc H.length, H ++ [.list (xs ++ ys)]) := by
  simp only [binop, h1, h2, hz, if_true]
/-- where a comprehension of P's block runs -/
noncomputable def inE (X : Expr) (P : CE) (cs : List (Str × Nat)) : CE := ⟨compScope (comS X) P, cs, P.lv, P.code, P.qual⟩
noncomputable def sg : Nat → Str
  | 0 => ⟨#[]⟩
  | 1 => ⟨#[97]⟩
  | 2 => ⟨#[65]⟩
  | 3 => ⟨#[98]⟩
  | _ => ⟨#[66]⟩
noncomputable def lawS (n : Nat) : Stmt := nth lawF.body n
noncomputable def consts : List Int := [41, 71, 378, 16, 22, 1]
noncomputable def rem (x : Int) : Int := x.fmod 675
noncomputable def NoCode (H : CH) : Prop := ∀ n : Nat, H[n]? ≠ some CO.code
theorem NoCode.codeAt : ∀ {H : CH} (i : Nat), NoCode H → codeAt H i = none
  | [], _, _ => rfl
  | o :: H, i, h => by
    have h0 : o ≠ .code := fun e => h 0 (by rw [e]; rfl)
    have h1 : NoCode H := fun n e => h (n + 1) e
    have := NoCode.codeAt (i + 1) h1
    cases o <;> first | exact this | exact absurd rfl h0
theorem NoCode.app {H X : CH} (h : NoCode H) (x : NoCode X) : NoCode (H ++ X) := fun n e => by
  rcases Nat.lt_or_ge n H.length with l | l
  · rw [List.getElem?_append_left l] at e; exact h n e
  · rw [List.getElem?_append_right l] at e; exact x _ e
theorem NoCode.set {H : CH} {n : Nat} {o : CO} (h : NoCode H) (x : o ≠ .code) : NoCode (H.set n o) := fun m e => by
  rw [List.getElem?_set] at e
  split at e
  · split at e
    · cases e; exact x rfl
    · cases e
  · exact h m e
theorem NoCode.nil : NoCode [] := fun n e => by simp at e
theorem NoCode.cons {o : CO} {X : CH} (h : o ≠ .code) (x : NoCode X) : NoCode (o :: X) := fun n e => by
  cases n with
  | zero => cases e; exact h rfl
  | succ n => exact x n e
/-- draws -/
theorem seg_draws {H : CH} {script : List Int} {x0 x1 x2 x3 x4 x5 : Int} (h0 : H[0]? = some (.list (intL script))) (hz : script.length ≤ 63) (hx : (script.take 6 ++ consts).take 6 = [x0, x1, x2, x3, x4, x5]) :
    ∃ H', Ex lawE (lawS 0) [("script", .loc 0)] H .next [("script", .loc 0), ("draws", .loc (H.length + 4))] H' ∧ H <+: H' ∧ H'[H.length + 4]? = some (.list (intL [rem x0, rem x1, rem x2, rem x3, rem x4, rem x5])) ∧ (NoCode H → NoCode H') := by
  have e1 : (intL script).take 6 = intL (script.take 6) := by simp [intL]
  have e2 : intL (script.take 6) ++ intL consts = intL (script.take 6 ++ consts) := by simp [intL]
  have e3 : (intL (script.take 6 ++ consts)).take 6 = intL [x0, x1, x2, x3, x4, x5] := by rw [← hx]; simp [intL]
  have hl : H.length ≠ 0 := by have := lt_of h0; (first | lia | omega)
  let H1 : CH := H ++ [CO.list (intL (script.take 6))]
  let H2 : CH := H1 ++ [CO.list (intL consts)]
  let H3 : CH := H2 ++ [CO.list (intL (script.take 6 ++ consts))]
  let H4 : CH := H3 ++ [CO.list (intL [x0, x1, x2, x3, x4, x5])]
  have l1 : H1.length = H.length + 1 := by simp [H1]
  have l2 : H2.length = H.length + 2 := by simp [H2, H1]
  have l3 : H3.length = H.length + 3 := by simp [H3, H2, H1]
  have l4 : H4.length = H.length + 4 := by simp [H4, H3, H2, H1]
  have g1 : H1[H.length]? = some (.list (intL (script.take 6))) := hp_new0 rfl
  have g2 : H2[H.length + 1]? = some (.list (intL consts)) := by rw [← l1]; exact hp_new0 rfl
  have g3 : H3[H.length + 2]? = some (.list (intL (script.take 6 ++ consts))) := by rw [← l2]; exact hp_new0 rfl
  have g4 : H4[H.length + 3]? = some (.list (intL [x0, x1, x2, x3, x4, x5])) := by rw [← l3]; exact hp_new0 rfl
  have src : Sc lawE [("script", .loc 0)] (genI (asgE (lawS 0))) H (.list (H.length + 3) 0) H4 := by
    apply Sc.of
    · rfl
    · refine Ev.upto' (n := H.length + 2) (H2 := H3) (xs := intL (script.take 6 ++ consts)) ?_ Ev.int g3 ⟨by decide, by simp [intL, consts]; (first | lia | omega)⟩ e3
      refine Ev.bin (a := .loc H.length) (b := .loc (H.length + 1)) (H1 := H1) (H2 := H2) ?_ ?_ ?_
      · exact Ev.upto' (n := 0) (H2 := H) (Ev.name (nm_local rfl rfl)) Ev.int h0 ⟨by decide, by simp [intL]; (first | lia | omega)⟩ e1
      · rw [← l1]
        exact Ev.list (vs := intL consts) (Es.cons rfl Ev.int (Es.cons rfl Ev.int (Es.cons rfl Ev.int (Es.cons rfl Ev.int (Es.cons rfl Ev.int (Es.cons rfl Ev.int Es.nil)))))) (by decide)
      · rw [bin_list (hp_app (X := [CO.list (intL consts)]) g1) g2 (by simp [intL, consts]; (first | lia | omega)), e2]
        show some (CV.loc H2.length, H3) = _
        rw [l2]
    · rw [l3]; exact it_list g4
  have el : ∀ {L : CL} {H : CH} {x : Int}, L.lookup ("x" : Str) = some (.int x) → Ev (inE (asgE (lawS 0)) lawE []) L (eltE (asgE (lawS 0))) H (.int (rem x)) H := fun h =>
    Ev.bin (Ev.name (nm_local rfl h)) Ev.int rfl
  have cm : Cm (inE (asgE (lawS 0)) lawE []) (asgE (lawS 0)) (.list (H.length + 3) 0) H4.length [] (H4 ++ [.list []]) (H4 ++ [.list (intL [rem x0, rem x1, rem x2, rem x3, rem x4, rem x5])]) := by
    refine Cm.push (turn_list (hp_app g4) rfl) (bt1 (set_local rfl)) ⟨rfl, rfl⟩ (el rfl) ⟨by (first | lia | omega), by simp⟩ ?_
    refine Cm.push (turn_list (hp_app g4) rfl) (bt1 (set_local rfl)) ⟨rfl, rfl⟩ (el rfl) ⟨by (first | lia | omega), by simp⟩ ?_
    refine Cm.push (turn_list (hp_app g4) rfl) (bt1 (set_local rfl)) ⟨rfl, rfl⟩ (el rfl) ⟨by (first | lia | omega), by simp⟩ ?_
    refine Cm.push (turn_list (hp_app g4) rfl) (bt1 (set_local rfl)) ⟨rfl, rfl⟩ (el rfl) ⟨by (first | lia | omega), by simp⟩ ?_
    refine Cm.push (turn_list (hp_app g4) rfl) (bt1 (set_local rfl)) ⟨rfl, rfl⟩ (el rfl) ⟨by (first | lia | omega), by simp⟩ ?_
    refine Cm.push (turn_list (hp_app g4) rfl) (bt1 (set_local rfl)) ⟨rfl, rfl⟩ (el rfl) ⟨by (first | lia | omega), by simp⟩ ?_
    exact Cm.done rfl (turn_list_end (hp_app g4) rfl)
  refine ⟨_, Ex.setComp rfl (Co.list rfl src rfl cm) (by rw [l4]; rfl), ?_, by rw [← l4]; exact hp_new0 rfl, fun nc => ?_⟩
  rotate_left
  · exact ((((nc.app (.cons (by intro z; cases z) .nil)).app (.cons (by intro z; cases z) .nil)).app (.cons (by intro z; cases z) .nil)).app (.cons (by intro z; cases z) .nil)).app (.cons (by intro z; cases z) .nil)
  exact (((((List.prefix_append _ _).trans (List.prefix_append _ _)).trans (List.prefix_append _ _)).trans (List.prefix_append _ _)).trans (List.prefix_append _ _))
/-- the cells of law -/
structure CellsAt (H : CH) (c : Nat → Option CV) : Prop where
  len : 9 ≤ H.length
  at_ : ∀ k, 1 ≤ k → k ≤ 8 → H[k]? = some (.cell (c k))
theorem CellsAt.pre {H H' : CH} {c : Nat → Option CV} (p : H <+: H') (h : CellsAt H c) : CellsAt H' c := ⟨Nat.le_trans h.len p.length_le, fun k a b => pre_get' p (h.at_ k a b)⟩
theorem CellsAt.set {H : CH} {c : Nat → Option CV} {k : Nat} (v : Option CV) (h : CellsAt H c) (hk : 1 ≤ k ∧ k ≤ 8) : CellsAt (H.set k (.cell v)) (fun i => if i = k then v else c i) := by
  refine ⟨by simpa using h.len, fun i a b => ?_⟩
  by_cases e : i = k
  · subst e
    rw [if_pos rfl]
    exact hp_self (h.at_ i a b)
  · rw [if_neg e]
    exact hp_set (Ne.symm e) (h.at_ i a b)
/-- all but the cells is kept -/
structure Kp (H H' : CH) : Prop where
  len : H.length ≤ H'.length
  keep : ∀ n o, 9 ≤ n → H[n]? = some o → H'[n]? = some o
theorem Kp.of_pre {H H' : CH} (p : H <+: H') : Kp H H' := ⟨p.length_le, fun n o _ h => pre_get' p h⟩
theorem Kp.app {H : CH} (X : CH) : Kp H (H ++ X) := .of_pre (List.prefix_append _ _)
theorem Kp.trans {H H' H'' : CH} (a : Kp H H') (b : Kp H' H'') : Kp H H'' := ⟨Nat.le_trans a.len b.len, fun n o k h => b.keep n o k (a.keep n o k h)⟩
theorem Kp.cell {H : CH} {k : Nat} {o : CO} (hk : k ≤ 8) : Kp H (H.set k o) := ⟨by simp, fun n o h e => hp_set (by (first | lia | omega)) e⟩
theorem app_cons {H X Y : CH} {a : CO} : H ++ a :: (X ++ Y) = (H ++ a :: X) ++ Y := by simp
noncomputable def wd (v : Int) : Str := sg (v.fmod 5).toNat ++ sg ((v.fdiv 5).fmod 5).toNat
noncomputable def signL : List CV := [.str (sg 0), .str (sg 1), .str (sg 2), .str (sg 3), .str (sg 4)]
theorem sign_at {k : Int} (h : 0 ≤ k) (h5 : k < 5) : signL[k.toNat]? = some (.str (sg k.toNat)) := by
  have : k.toNat < 5 := by (first | lia | omega)
  rcases hk : k.toNat with _ | _ | _ | _ | _ | n <;> first | rfl | (first | lia | omega)
theorem sg_size (n : Nat) : (sg n).cps.size ≤ 1 := by
  rcases n with _ | _ | _ | _ | n <;> first | decide | exact (by decide : (⟨#[66]⟩ : Str).cps.size ≤ 1)
theorem fmod5 (v : Int) : 0 ≤ v.fmod 5 ∧ v.fmod 5 < 5 := ⟨Int.fmod_nonneg_of_pos _ (by decide), Int.fmod_lt_of_pos _ (by decide)⟩
noncomputable def callL (v : Int) : List Int := [(v.fdiv 25).fmod 3, (v.fdiv 75).fmod 3, v.fdiv 225]
theorem seg_signs {H : CH} {c : Nat → Option CV} {L : CL} (hC : CellsAt H c) : ∃ H', Ex lawE (lawS 1) L H .next L H' ∧ Kp H H' ∧ CellsAt H' (fun i => if i = 1 then some (.loc H.length) else c i) ∧ H'[H.length]? = some (.list signL) ∧ (NoCode H → NoCode H') := by
  have p := List.prefix_append H [CO.list signL]
  have hl := hC.len
  refine ⟨(H ++ [CO.list signL]).set 1 (.cell (some (.loc H.length))), ?_, (Kp.app _).trans (Kp.cell (by decide)), (hC.pre p).set (k := 1) _ (by decide), hp_set (by (first | lia | omega)) (hp_new0 rfl), fun nc => (nc.app (.cons (by intro z; cases z) .nil)).set (by intro z; cases z)⟩
  refine Ex.set rfl (v := .loc H.length) (H1 := H ++ [.list signL]) ?_ (set_cell rfl rfl ((hC.pre p).at_ 1 (by decide) (by decide)) (by decide))
  exact Ev.list (vs := signL) (Es.cons rfl Ev.str (Es.cons rfl Ev.str (Es.cons rfl Ev.str (Es.cons rfl Ev.str (Es.cons rfl Ev.str Es.nil))))) (by decide)
theorem seg_words {H : CH} {c : Nat → Option CV} {L : CL} {ds sl : Nat} {x0 x1 x2 x3 x4 x5 : Int} (hC : CellsAt H c) (hc1 : c 1 = some (.loc sl)) (hs : H[sl]? = some (.list signL)) (hL : L.lookup ("draws" : Str) = some (.loc ds)) (hd : H[ds]? = some (.list (intL [x0, x1, x2, x3, x4, x5]))) :
    ∃ H', Ex lawE (lawS 2) L H .next (L.set "words" (.loc H.length)) H' ∧ H <+: H' ∧ H'[H.length]? = some (.list [.str (wd x0), .str (wd x1), .str (wd x2), .str (wd x3), .str (wd x4), .str (wd x5)]) ∧ (NoCode H → NoCode H') := by
  have hl := hC.len
  have c1 : H[1]? = some (.cell (some (.loc sl))) := hc1 ▸ hC.at_ 1 (by decide) (by decide)
  have el : ∀ {L : CL} {x : Int} {X : CH}, L.lookup ("v" : Str) = some (.int x) → Ev (inE (asgE (lawS 2)) lawE [("signs", 1)]) L (eltE (asgE (lawS 2))) (H ++ X) (.str (wd x)) (H ++ X) := fun {L x X} h => by
    refine Ev.bin (a := .str (sg (x.fmod 5).toNat)) (b := .str (sg ((x.fdiv 5).fmod 5).toNat)) (H1 := H ++ X) (H2 := H ++ X) ?_ ?_ ?_
    · exact Ev.sub rfl (Ev.name (nm_cell rfl rfl (hp_app c1))) (Ev.bin (Ev.name (nm_local rfl h)) Ev.int rfl) (gi_list (hp_app hs) ⟨(fmod5 _).1, by decide⟩ (sign_at (fmod5 _).1 (fmod5 _).2))
    · exact Ev.sub rfl (Ev.name (nm_cell rfl rfl (hp_app c1))) (Ev.bin (Ev.bin (Ev.name (nm_local rfl h)) Ev.int rfl) Ev.int rfl) (gi_list (hp_app hs) ⟨(fmod5 _).1, by decide⟩ (sign_at (fmod5 _).1 (fmod5 _).2))
    · have h1 := sg_size (x.fmod 5).toNat
      have h2 := sg_size ((x.fdiv 5).fmod 5).toNat
      simp only [binop, wd, show (sg (x.fmod 5).toNat).cps.size + (sg ((x.fdiv 5).fmod 5).toNat).cps.size ≤ 1000 by (first | lia | omega), if_true]
  have src : Sc lawE L (genI (asgE (lawS 2))) H (.list ds 0) H := by
    apply Sc.of
    · rfl
    · exact Ev.name (nm_local rfl hL)
    · exact it_list hd
  have cm : Cm (inE (asgE (lawS 2)) lawE [("signs", 1)]) (asgE (lawS 2)) (.list ds 0) H.length [] (H ++ [.list []]) (H ++ [.list [.str (wd x0), .str (wd x1), .str (wd x2), .str (wd x3), .str (wd x4), .str (wd x5)]]) := by
    refine Cm.push (turn_list (hp_app hd) rfl) (bt1 (set_local rfl)) ⟨rfl, rfl⟩ (el rfl) ⟨by (first | lia | omega), by simp⟩ ?_
    refine Cm.push (turn_list (hp_app hd) rfl) (bt1 (set_local rfl)) ⟨rfl, rfl⟩ (el rfl) ⟨by (first | lia | omega), by simp⟩ ?_
    refine Cm.push (turn_list (hp_app hd) rfl) (bt1 (set_local rfl)) ⟨rfl, rfl⟩ (el rfl) ⟨by (first | lia | omega), by simp⟩ ?_
    refine Cm.push (turn_list (hp_app hd) rfl) (bt1 (set_local rfl)) ⟨rfl, rfl⟩ (el rfl) ⟨by (first | lia | omega), by simp⟩ ?_
    refine Cm.push (turn_list (hp_app hd) rfl) (bt1 (set_local rfl)) ⟨rfl, rfl⟩ (el rfl) ⟨by (first | lia | omega), by simp⟩ ?_
    refine Cm.push (turn_list (hp_app hd) rfl) (bt1 (set_local rfl)) ⟨rfl, rfl⟩ (el rfl) ⟨by (first | lia | omega), by simp⟩ ?_
    exact Cm.done rfl (turn_list_end (hp_app hd) rfl)
  exact ⟨_, Ex.setComp rfl (Co.list rfl src rfl cm) (set_local rfl), List.prefix_append _ _, hp_new0 rfl, fun nc => nc.app (.cons (by intro z; cases z) .nil)⟩
theorem seg_calls {H : CH} {c : Nat → Option CV} {L : CL} {ds : Nat} {x0 x1 x2 x3 x4 x5 : Int} (hC : CellsAt H c) (hL : L.lookup ("draws" : Str) = some (.loc ds)) (hd : H[ds]? = some (.list (intL [x0, x1, x2, x3, x4, x5]))) :
    ∃ H', Ex lawE (lawS 3) L H .next L H' ∧ Kp H H' ∧ CellsAt H' (fun i => if i = 2 then some (.loc (H.length + 1)) else c i) ∧ H'[H.length + 1]? = some (.list [.loc (H.length + 2), .loc (H.length + 3), .loc (H.length + 4)]) ∧
      H'[H.length + 2]? = some (.list (intL (callL x0))) ∧ H'[H.length + 3]? = some (.list (intL (callL x1))) ∧ H'[H.length + 4]? = some (.list (intL (callL x2))) ∧ (NoCode H → NoCode H') := by
  have hl := hC.len
  let A : CH := H ++ [.list (intL [x0, x1, x2])]
  have lA : A.length = H.length + 1 := by simp [A]
  have gA : A[H.length]? = some (.list (intL [x0, x1, x2])) := hp_new0 rfl
  have src : Sc lawE L (genI (asgE (lawS 3))) H (.list H.length 0) A := by
    apply Sc.of
    · rfl
    · exact Ev.upto' (H2 := H) (Ev.name (nm_local rfl hL)) Ev.int hd ⟨by decide, by simp [intL]⟩ rfl
    · exact it_list gA
  have el : ∀ {L : CL} {x : Int} {l : List CV} {X : CH}, L.lookup ("v" : Str) = some (.int x) → Ev (inE (asgE (lawS 3)) lawE []) L (eltE (asgE (lawS 3))) (A ++ .list l :: X) (.loc (A.length + 1 + X.length)) (A ++ .list l :: (X ++ [.list (intL (callL x))])) := fun {L x l X} h => by
    rw [app_cons, show A.length + 1 + X.length = (A ++ CO.list l :: X).length by simp; (first | lia | omega)]
    exact Ev.list (vs := intL (callL x)) (Es.cons rfl (Ev.bin (Ev.bin (Ev.name (nm_local rfl h)) Ev.int rfl) Ev.int rfl) (Es.cons rfl (Ev.bin (Ev.bin (Ev.name (nm_local rfl h)) Ev.int rfl) Ev.int rfl) (Es.cons rfl (Ev.bin (Ev.name (nm_local rfl h)) Ev.int rfl) Es.nil))) (by simp [intL, callL])
  have cm : Cm (inE (asgE (lawS 3)) lawE []) (asgE (lawS 3)) (.list H.length 0) A.length [] (A ++ [.list []]) (A ++ [.list [.loc (A.length + 1), .loc (A.length + 2), .loc (A.length + 3)], .list (intL (callL x0)), .list (intL (callL x1)), .list (intL (callL x2))]) := by
    refine Cm.push (turn_list (hp_app gA) rfl) (bt1 (set_local rfl)) ⟨rfl, rfl⟩ (el rfl) ⟨by (first | lia | omega), by simp⟩ ?_
    refine Cm.push (turn_list (hp_app gA) rfl) (bt1 (set_local rfl)) ⟨rfl, rfl⟩ (el rfl) ⟨by (first | lia | omega), by simp⟩ ?_
    refine Cm.push (turn_list (hp_app gA) rfl) (bt1 (set_local rfl)) ⟨rfl, rfl⟩ (el rfl) ⟨by (first | lia | omega), by simp⟩ ?_
    exact Cm.done rfl (turn_list_end (hp_app gA) rfl)
  have pA : H <+: A := List.prefix_append _ _
  refine ⟨_, Ex.setComp rfl (Co.list rfl src rfl cm) (set_cell rfl rfl (hp_app (hp_app (hC.at_ 2 (by decide) (by decide)))) (by decide)), ((Kp.of_pre pA).trans (Kp.app _)).trans (Kp.cell (by decide)), ?_, ?_, ?_, ?_, ?_, fun nc => ((nc.app (.cons (by intro z; cases z) .nil)).app (.cons (by intro z; cases z) (.cons (by intro z; cases z) (.cons (by intro z; cases z) (.cons (by intro z; cases z) .nil))))).set (by intro z; cases z)⟩
  · rw [lA]; exact (hC.pre (pA.trans (List.prefix_append _ _))).set _ (by decide)
  · rw [show H.length + 2 = A.length + 1 by (first | lia | omega), show H.length + 3 = A.length + 2 by (first | lia | omega), show H.length + 4 = A.length + 3 by (first | lia | omega), ← lA]; exact hp_set (by (first | lia | omega)) (hp_new0 rfl)
  · rw [show H.length + 2 = A.length + 1 by (first | lia | omega)]; exact hp_set (by (first | lia | omega)) (hp_new rfl)
  · rw [show H.length + 3 = A.length + 2 by (first | lia | omega)]; exact hp_set (by (first | lia | omega)) (hp_new rfl)
  · rw [show H.length + 4 = A.length + 3 by (first | lia | omega)]; exact hp_set (by (first | lia | omega)) (hp_new rfl)
end Mine
end

section
set_option maxRecDepth 100000
set_option linter.unusedVariables false
set_option autoImplicit false
namespace Mine
open PySem
local macro_rules | `(tactic| walk_at "lk") => `(tactic| first | assumption | exact lk_eq | (apply lk_ne (by decide); walk_at "lk") | rfl)
local macro_rules | `(tactic| walk_at "hp") => `(tactic| first | assumption | (apply hp_app; walk_at "hp") | (apply hp_new0; rfl) | (apply hp_new; rfl) | (apply hp_set (by first | decide | (first | lia | omega)); walk_at "hp") | (apply hp_self; walk_at "hp"))
local macro_rules | `(tactic| walk_at "nm") => `(tactic| first | (apply nm_local rfl; walk_at "lk") | (apply nm_cell rfl rfl; walk_at "hp") | (apply nm_free rfl rfl; walk_at "hp") | exact nm_num rfl rfl)
local macro_rules | `(tactic| walk_at "st") => `(tactic| first | exact set_local rfl | (apply set_cell rfl rfl (h0 := by decide); walk_at "hp"))
local macro_rules | `(tactic| walk_at "bt") => `(tactic| first | (apply bt1; walk_at "st") | (apply bt2; walk_at "st"; walk_at "st") | (apply bt3; walk_at "hp"; walk_at "st"; walk_at "st"))
local macro_rules | `(tactic| walk_at "gi") => `(tactic| first | assumption | (apply gi_list; walk_at "hp"; (first | assumption | decide | (simp; done)); (first | assumption | rfl)) | (apply gi_tup; walk_at "hp"; (first | assumption | decide | (simp; done)); (first | assumption | rfl)))
local macro_rules | `(tactic| walk_at "ev") => `(tactic| first
  | exact Ev.int | exact Ev.str | exact Ev.bool | exact Ev.dict0
  | (apply Ev.name; walk_at "nm")
  | (apply Ev.sub rfl; walk_at "ev"; walk_at "ev"; walk_at "gi")
  | (apply Ev.neg; walk_at "ev")
  | (apply Ev.bin; walk_at "ev"; walk_at "ev"; first | assumption | rfl)
  | (apply Ev.cmp rfl; walk_at "ev"; walk_at "ev"; first | assumption | rfl))
local macro_rules | `(tactic| walk_at "ts") => `(tactic| first
  | (apply Ts.cmp rfl; walk_at "ev"; walk_at "ev"; first | assumption | rfl))
local macro_rules | `(tactic| walk_at "ex") => `(tactic| first
  | (apply Ex.set rfl; walk_at "ev"; walk_at "st")
  | (apply Ex.ret; walk_at "ev") | exact Ex.brk)
/-- keeps all from 9 on but K -/
structure Kq (K : List Nat) (H H' : CH) : Prop where
  len : H.length ≤ H'.length
  keep : ∀ n o, 9 ≤ n → n ∉ K → H[n]? = some o → H'[n]? = some o
theorem Kp.q {K : List Nat} {H H' : CH} (k : Kp H H') : Kq K H H' := ⟨k.len, fun n o h _ e => k.keep n o h e⟩
theorem Kq.trans {K : List Nat} {H H' H'' : CH} (a : Kq K H H') (b : Kq K H' H'') : Kq K H H'' := ⟨Nat.le_trans a.len b.len, fun n o h k e => b.keep n o h k (a.keep n o h k e)⟩
theorem Kq.of_pre {K : List Nat} {H H' : CH} (p : H <+: H') : Kq K H H' := (Kp.of_pre p).q
theorem Kq.app {K : List Nat} {H : CH} (X : CH) : Kq K H (H ++ X) := .of_pre (List.prefix_append _ _)
theorem Kq.set {K : List Nat} {H : CH} {n : Nat} (o : CO) (h : n ∈ K) : Kq K H (H.set n o) := ⟨by simp, fun m x _ k e => hp_set (fun z => k (z ▸ h)) e⟩
theorem Kq.wide {K K' : List Nat} {H H' : CH} (k : Kq K H H') (h : ∀ n ∈ K, n ∈ K') : Kq K' H H' := ⟨k.len, fun n o a b e => k.keep n o a (fun m => b (h n m)) e⟩
theorem CellsAt.keep {H : CH} {c : Nat → Option CV} {n : Nat} {o : CO} (h : CellsAt H c) (hn : 9 ≤ n) : CellsAt (H.set n o) c := ⟨by simpa using h.len, fun k a b => hp_set (by (first | lia | omega)) (h.at_ k a b)⟩
/-- where the rows' loop stands -/
structure RB (H : CH) (c : Nat → Option CV) (aw ac ar : Nat) (cc : Nat → Nat) (x : Nat → Int) (rs : List Nat) : Prop where
  cells : CellsAt H c
  c2 : c 2 = some (.loc ac)
  c3 : c 3 = some (.loc ar)
  words : H[aw]? = some (.list [.str (wd (x 0)), .str (wd (x 1)), .str (wd (x 2)), .str (wd (x 3)), .str (wd (x 4)), .str (wd (x 5))])
  calls : H[ac]? = some (.list [.loc (cc 0), .loc (cc 1), .loc (cc 2)])
  call : ∀ i, i < 3 → H[cc i]? = some (.list (intL (callL (x i))))
  rows : H[ar]? = some (.list (rs.map .loc))
  ne : ar ≠ aw ∧ ar ≠ ac ∧ ∀ i, i < 3 → ar ≠ cc i
  nine : 9 ≤ ar ∧ 9 ≤ aw ∧ 9 ≤ ac ∧ ∀ i, i < 3 → 9 ≤ cc i
  few : rs.length ≤ 900
  nc : NoCode H
theorem RB.app {H X : CH} {c : Nat → Option CV} {aw ac ar : Nat} {cc : Nat → Nat} {x : Nat → Int} {rs : List Nat} (h : RB H c aw ac ar cc x rs) (hx : NoCode X) : RB (H ++ X) c aw ac ar cc x rs :=
  ⟨h.cells.pre (List.prefix_append _ _), h.c2, h.c3, hp_app h.words, hp_app h.calls, fun i k => hp_app (h.call i k), hp_app h.rows, h.ne, h.nine, h.few, h.nc.app hx⟩
theorem RB.j {H : CH} {c : Nat → Option CV} {aw ac ar : Nat} {cc : Nat → Nat} {x : Nat → Int} {rs : List Nat} (v : CV) (h : RB H c aw ac ar cc x rs) : RB (H.set 4 (.cell (some v))) (fun i => if i = 4 then some v else c i) aw ac ar cc x rs := by
  obtain ⟨n1, n2, n3, n4⟩ := h.nine
  exact ⟨h.cells.set _ (by decide), by simpa using h.c2, by simpa using h.c3, hp_set (by (first | lia | omega)) h.words, hp_set (by (first | lia | omega)) h.calls, fun i k => hp_set (by have := n4 i k; (first | lia | omega)) (h.call i k), hp_set (by (first | lia | omega)) h.rows, h.ne, h.nine, h.few, h.nc.set (by intro z; cases z)⟩
theorem RB.push {H : CH} {c : Nat → Option CV} {aw ac ar : Nat} {cc : Nat → Nat} {x : Nat → Int} {rs : List Nat} (r : Nat) (hr : rs.length < 900) (h : RB H c aw ac ar cc x rs) : RB (H.set ar (.list ((rs ++ [r]).map .loc))) c aw ac ar cc x (rs ++ [r]) := by
  obtain ⟨m1, m2, m3⟩ := h.ne
  exact ⟨h.cells.keep h.nine.1, h.c2, h.c3, hp_set m1 h.words, hp_set m2 h.calls, fun i k => hp_set (m3 i k) (h.call i k), hp_self h.rows, h.ne, h.nine, by simp; (first | lia | omega), h.nc.set (by intro z; cases z)⟩
theorem word_at {x : Nat → Int} {k : Nat} (hk : k < 6) : ([.str (wd (x 0)), .str (wd (x 1)), .str (wd (x 2)), .str (wd (x 3)), .str (wd (x 4)), .str (wd (x 5))] : List CV)[k]? = some (.str (wd (x k))) := by
  rcases k with _ | _ | _ | _ | _ | _ | k <;> first | rfl | (first | lia | omega)
noncomputable def rowV (d : Nat → Nat → Int) (x : Nat → Int) (i j : Nat) : List Int := [d i j, (callL (x i)).getD j 0, i, j]
noncomputable def innL : Stmt := nth (forB (lawS 5)) 0
theorem row_step {H : CH} {c : Nat → Option CV} {aw ac ar i j : Nat} {cc : Nat → Nat} {x : Nat → Int} {rs : List Nat} {L : CL} {d : Nat → Nat → Int} (h : RB H c aw ac ar cc x rs) (hi : i < 3) (hj : j < 3) (hcj : c 4 = some (.int j)) (hr : rs.length < 900) (hLi : L.lookup ("i" : Str) = some (.int i)) (hLw : L.lookup ("words" : Str) = some (.loc aw))
    (hd : ∀ H, codeAt H 0 = none → Fn_ levF 6 [.str (wd (x i)), .str (wd (x (3 + j))), .int 4] H (.int (d i j)) H ∧ Fn_ farF 6 [.str (wd (x i)), .str (wd (x (3 + j)))] H (.int (d i j)) H) :
    Exs lawE (forB innL) L H .next (L.set "told" (.int (d i j))) ((H ++ [CO.tup (intL (rowV d x i j))]).set ar (.list ((rs ++ [H.length]).map .loc))) := by
  obtain ⟨f1, f2⟩ := hd H (h.nc.codeAt 0)
  have n4 : H[4]? = some (.cell (some (.int j))) := hcj ▸ h.cells.at_ 4 (by decide) (by decide)
  have n2 : H[2]? = some (.cell (some (.loc ac))) := h.c2 ▸ h.cells.at_ 2 (by decide) (by decide)
  have n3 : H[3]? = some (.cell (some (.loc ar))) := h.c3 ▸ h.cells.at_ 3 (by decide) (by decide)
  have w1 : ∀ {L : CL} {p q r : Pos}, L.lookup ("i" : Str) = some (.int i) → L.lookup ("words" : Str) = some (.loc aw) → Ev lawE L (.Subscript (.Name "words" p) (.Name "i" q) r) H (.str (wd (x i))) H := fun {L p q r} a b =>
    Ev.sub rfl (Ev.name (nm_local rfl b)) (Ev.name (nm_local rfl a)) (gi_list h.words ⟨by (first | lia | omega), by simp⟩ (word_at (by (first | lia | omega) : i < 6)))
  have w2 : ∀ {L : CL} {p q r t : Pos} {k : Nat} {u : Pos}, L.lookup ("words" : Str) = some (.loc aw) → Ev lawE L (.Subscript (.Name "words" p) (.BinOp (.Constant (.int 3) k q) .Add (.Name "j" r) t) u) H (.str (wd (x (3 + j)))) H := fun {L p q r t k u} b =>
    Ev.sub rfl (Ev.name (nm_local rfl b)) (Ev.bin Ev.int (Ev.name (nm_cell rfl rfl n4)) rfl) (gi_list h.words ⟨by (first | lia | omega), by simp⟩ (by rw [show ((3 : Int) + (j : Int)).toNat = 3 + j by (first | lia | omega)]; exact word_at (by (first | lia | omega))))
  have s0 : Ex lawE (nth (forB innL) 0) L H .next (L.set "told" (.int (d i j))) H := by
    refine Ex.set rfl (Ev.fn (g := levF) rfl rfl rfl ?_ f1) (set_local rfl)
    exact Es.cons rfl (w1 hLi hLw) (Es.cons rfl (w2 hLw) (Es.cons rfl Ev.int Es.nil))
  have lt : (L.set "told" (.int (d i j))).lookup ("told" : Str) = some (.int (d i j)) := lk_eq
  have lw : (L.set "told" (.int (d i j))).lookup ("words" : Str) = some (.loc aw) := lk_ne (by decide) hLw
  have li : (L.set "told" (.int (d i j))).lookup ("i" : Str) = some (.int i) := lk_ne (by decide) hLi
  have s1 : Ex lawE (nth (forB innL) 1) (L.set "told" (.int (d i j))) H .next (L.set "told" (.int (d i j))) H := by
    refine Ex.ite (z := false) (Ts.cmp (a := .int (d i j)) (b := .int (d i j)) (H1 := H) rfl ?_ ?_ ?_) Exs.nil
    · exact Ev.name (nm_local rfl lt)
    · refine Ev.fn (g := farF) rfl rfl rfl ?_ f2
      exact Es.cons rfl (w1 li lw) (Es.cons rfl (w2 lw) Es.nil)
    · simp only [cmpop, ne_eq, not_true_eq_false, decide_false]
  have cj : (intL (callL (x i)))[((j : Nat) : Int).toNat]? = some (.int ((callL (x i)).getD j 0)) := by
    rcases j with _ | _ | _ | j <;> first | rfl | (first | lia | omega)
  have s2 : Ex lawE (nth (forB innL) 2) (L.set "told" (.int (d i j))) H .next (L.set "told" (.int (d i j))) ((H ++ [CO.tup (intL (rowV d x i j))]).set ar (.list ((rs ++ [H.length]).map .loc))) := by
    rw [List.map_append]
    refine Ex.exprNone (Ev.append (n := ar) (v := .loc H.length) (xs := rs.map .loc) (H1 := H) (H2 := H ++ [.tup (intL (rowV d x i j))]) rfl rfl rfl (Ev.name (nm_cell rfl rfl n3)) ?_ h.rows (hp_app h.rows) (by have := h.nine.1; (first | lia | omega)) (by simp; (first | lia | omega)))
    refine Ev.tup (vs := intL (rowV d x i j)) (H1 := H) ?_ (by simp [intL, rowV])
    refine Es.cons rfl (Ev.name (nm_local rfl lt)) (Es.cons (H1 := H) rfl ?_ (Es.cons rfl (Ev.name (nm_local rfl li)) (Es.cons rfl (Ev.name (nm_cell rfl rfl n4)) Es.nil)))
    refine Ev.sub rfl (a := .loc (cc i)) (H1 := H) ?_ (Ev.name (nm_cell rfl rfl n4)) (gi_list (h.call i hi) ⟨by (first | lia | omega), by simp [intL, callL]⟩ cj)
    exact Ev.sub rfl (Ev.name (nm_cell rfl rfl n2)) (Ev.name (nm_local rfl li)) (gi_list h.calls ⟨by (first | lia | omega), by simp⟩ (list3 (a := 0) (b := 0) (c := 0) hi))
  exact Exs.cons s0 (Exs.cons s1 (Exs.cons s2 Exs.nil))
theorem inner_go {aw ac ar i : Nat} {cc : Nat → Nat} {x : Nat → Int} {d : Nat → Nat → Int} (hi : i < 3)
    (hd : ∀ j, j < 3 → ∀ H, codeAt H 0 = none → Fn_ levF 6 [.str (wd (x i)), .str (wd (x (3 + j))), .int 4] H (.int (d i j)) H ∧ Fn_ farF 6 [.str (wd (x i)), .str (wd (x (3 + j)))] H (.int (d i j)) H) :
    ∀ (left j : Nat) (H : CH) (c : Nat → Option CV) (L : CL) (rs : List Nat), j + left = 3 → RB H c aw ac ar cc x rs → rs.length + left < 900 → L.lookup ("i" : Str) = some (.int i) → L.lookup ("words" : Str) = some (.loc aw) →
      ∃ L' H' c', Fr_ lawE (forT innL) (.range (j : Int) 1 left) (forB innL) L H .next L' H' ∧ RB H' c' aw ac ar cc x (rs ++ List.range' H.length left) ∧ Kq [ar] H H' ∧ H'.length = H.length + left ∧ (∀ k, k < left → H'[H.length + k]? = some (.tup (intL (rowV d x i (j + k))))) ∧ (∀ y : Str, y ≠ "told" → L'.lookup y = L.lookup y) ∧ ∀ k, k ≠ 4 → c' k = c k
  | 0, j, H, c, L, rs, e, h, hr, g1, g2 => ⟨L, H, c, Fr_.done rfl, by simpa using h, ⟨Nat.le_refl _, fun _ _ _ _ z => z⟩, rfl, fun k hk => by (first | lia | omega), fun _ _ => rfl, fun _ _ => rfl⟩
  | left + 1, j, H, c, L, rs, e, h, hr, g1, g2 => by
    have hj : j < 3 := by (first | lia | omega)
    have h4 := h.j (.int j)
    have st := row_step (j := j) (L := L) (d := d) h4 hi hj (by simp) (by (first | lia | omega)) g1 g2 (hd j hj)
    have lH : (H.set 4 (.cell (some (.int j)))).length = H.length := by simp
    rw [lH] at st
    have hb := RB.push (rs := rs) H.length (by (first | lia | omega)) (h4.app (X := [CO.tup (intL (rowV d x i j))]) (.cons (by intro z; cases z) .nil))
    have kq : Kq [ar] H ((H.set 4 (.cell (some (.int j))) ++ [CO.tup (intL (rowV d x i j))]).set ar (.list ((rs ++ [H.length]).map .loc))) := (((Kp.cell (by decide)).q).trans (Kq.app _)).trans (Kq.set _ (by simp))
    have hn : ((H.set 4 (.cell (some (.int j))) ++ [CO.tup (intL (rowV d x i j))]).set ar (.list ((rs ++ [H.length]).map .loc)))[H.length]? = some (.tup (intL (rowV d x i j))) := by
      have := lt_of h.rows
      refine hp_set (by (first | lia | omega)) ?_
      rw [← lH]
      exact hp_new0 rfl
    have l1 : ((H.set 4 (.cell (some (.int j))) ++ [CO.tup (intL (rowV d x i j))]).set ar (.list ((rs ++ [H.length]).map .loc))).length = H.length + 1 := by simp
    generalize (H.set 4 (.cell (some (.int j))) ++ [CO.tup (intL (rowV d x i j))]).set ar (.list ((rs ++ [H.length]).map .loc)) = H1 at st hb kq hn l1
    obtain ⟨L', H', c', q1, q2, q3, q4, q5, q6, q7⟩ := inner_go (aw := aw) (ac := ac) (ar := ar) (cc := cc) hi hd left (j + 1) H1 _ (L.set "told" (.int (d i j))) (rs ++ [H.length]) (by (first | lia | omega)) hb (by simp; (first | lia | omega)) (lk_ne (by decide) g1) (lk_ne (by decide) g2)
    refine ⟨L', H', c', ?_, ?_, kq.trans q3, by (first | lia | omega), fun k hk => ?_, fun y hy => ?_, fun k hk => ?_⟩
    · refine Fr_.next (it' := .range ((j + 1 : Nat) : Int) 1 left) rfl (bt1 (set_cell rfl rfl (h.cells.at_ 4 (by decide) (by decide)) (by decide))) st q1
    · rw [l1] at q2
      simpa [List.range'_succ] using q2
    · cases k with
      | zero => exact q3.keep _ _ (by have := h.nine.1; have := lt_of h.rows; (first | lia | omega)) (by have := lt_of h.rows; simp; (first | lia | omega)) (by simpa using hn)
      | succ k =>
        have := q5 k (by (first | lia | omega))
        rw [l1] at this
        rw [show H.length + (k + 1) = H.length + 1 + k by (first | lia | omega), show j + (k + 1) = j + 1 + k by (first | lia | omega)]
        exact this
    · rw [q6 y hy, CL.lookup_set, if_neg hy]
    · rw [q7 k hk]; simp [hk]
theorem range_src {E : CE} {L : CL} {H : CH} {p q r : Pos} {k : Nat} (hk : kindIn E "range" = some .globalImplicit) : Sc E L (.Call (.Name "range" p) [.Constant (.int 3) k q] [] r) H (.range 0 1 3) (H ++ [.range 0 3 1]) := by
  apply Sc.of
  · rfl
  · exact Ev.bi (vs := [.int 3]) rfl hk rfl rfl (Es.cons rfl Ev.int Es.nil) .range1
  · simp only [iterOf, hp_new0 (H := H) (X := [CO.range 0 3 1]) rfl]
    rfl
theorem inner_run {aw ac ar i : Nat} {cc : Nat → Nat} {x : Nat → Int} {d : Nat → Nat → Int} {H : CH} {c : Nat → Option CV} {L : CL} {rs : List Nat} (hi : i < 3)
    (hd : ∀ j, j < 3 → ∀ H, codeAt H 0 = none → Fn_ levF 6 [.str (wd (x i)), .str (wd (x (3 + j))), .int 4] H (.int (d i j)) H ∧ Fn_ farF 6 [.str (wd (x i)), .str (wd (x (3 + j)))] H (.int (d i j)) H)
    (h : RB H c aw ac ar cc x rs) (hr : rs.length + 3 < 900) (g1 : L.lookup ("i" : Str) = some (.int i)) (g2 : L.lookup ("words" : Str) = some (.loc aw)) :
    ∃ L' H' c', Ex lawE innL L H .next L' H' ∧ RB H' c' aw ac ar cc x (rs ++ List.range' (H.length + 1) 3) ∧ Kq [ar] H H' ∧ H'.length = H.length + 4 ∧ (∀ k, k < 3 → H'[H.length + 1 + k]? = some (.tup (intL (rowV d x i k)))) ∧ (∀ y : Str, y ≠ "told" → L'.lookup y = L.lookup y) ∧ ∀ k, k ≠ 4 → c' k = c k := by
  have hl : (H ++ [CO.range 0 3 1]).length = H.length + 1 := by simp
  obtain ⟨L', H', c', q1, q2, q3, q4, q5, q6, q7⟩ := inner_go (d := d) hi hd 3 0 (H ++ [.range 0 3 1]) c L rs rfl (h.app (.cons (by intro z; cases z) .nil)) hr g1 g2
  rw [hl] at q2 q4 q5
  refine ⟨L', H', c', Ex.for_ (range_src rfl) q1, q2, (Kq.app _).trans q3, by (first | lia | omega), fun k hk => by simpa using q5 k hk, q6, q7⟩
noncomputable def blocks (n : Nat) : Nat → List Nat
  | 0 => []
  | k + 1 => List.range' (n + 1) 3 ++ blocks (n + 4) k
theorem outer_go {aw ac ar : Nat} {cc : Nat → Nat} {x : Nat → Int} {d : Nat → Nat → Int}
    (hd : ∀ i, i < 3 → ∀ j, j < 3 → ∀ H, codeAt H 0 = none → Fn_ levF 6 [.str (wd (x i)), .str (wd (x (3 + j))), .int 4] H (.int (d i j)) H ∧ Fn_ farF 6 [.str (wd (x i)), .str (wd (x (3 + j)))] H (.int (d i j)) H) :
    ∀ (left i : Nat) (H : CH) (c : Nat → Option CV) (L : CL) (rs : List Nat), i + left = 3 → RB H c aw ac ar cc x rs → rs.length + 3 * left < 900 → L.lookup ("words" : Str) = some (.loc aw) →
      ∃ L' H' c', Fr_ lawE (forT (lawS 5)) (.range (i : Int) 1 left) (forB (lawS 5)) L H .next L' H' ∧ RB H' c' aw ac ar cc x (rs ++ blocks H.length left) ∧ Kq [ar] H H' ∧ H'.length = H.length + 4 * left ∧ (∀ m, m < left → ∀ k, k < 3 → H'[H.length + 4 * m + 1 + k]? = some (.tup (intL (rowV d x (i + m) k)))) ∧
        (∀ y : Str, y ≠ "told" → y ≠ "i" → L'.lookup y = L.lookup y) ∧ ∀ k, k ≠ 4 → c' k = c k
  | 0, i, H, c, L, rs, e, h, hr, g => ⟨L, H, c, Fr_.done rfl, by simpa [blocks] using h, ⟨Nat.le_refl _, fun _ _ _ _ z => z⟩, rfl, fun k hk => by (first | lia | omega), fun _ _ _ => rfl, fun _ _ => rfl⟩
  | left + 1, i, H, c, L, rs, e, h, hr, g => by
    have hi : i < 3 := by (first | lia | omega)
    obtain ⟨L1, H1, c1, p1, p2, p3, p4, p5, p6, p7⟩ := inner_run (L := L.set "i" (.int i)) (d := d) hi (hd i hi) h (by (first | lia | omega)) lk_eq (lk_ne (by decide) g)
    obtain ⟨L', H', c', q1, q2, q3, q4, q5, q6, q7⟩ := outer_go (d := d) hd left (i + 1) H1 c1 L1 (rs ++ List.range' (H.length + 1) 3) (by (first | lia | omega)) p2 (by simp; (first | lia | omega)) (by rw [p6 _ (by decide)]; exact lk_ne (by decide) g)
    refine ⟨L', H', c', ?_, ?_, p3.trans q3, by (first | lia | omega), fun m hm k hk => ?_, fun y h1 h2 => ?_, fun k hk => by rw [q7 k hk, p7 k hk]⟩
    · refine Fr_.next (it' := .range ((i + 1 : Nat) : Int) 1 left) rfl (bt1 (set_local rfl)) ?_ q1
      exact Exs.cons p1 Exs.nil
    · rw [p4] at q2
      simpa [blocks] using q2
    · cases m with
      | zero =>
        have hr0 := lt_of h.rows
        have := h.nine.1
        exact q3.keep _ _ (by (first | lia | omega)) (by simp; (first | lia | omega)) (by simpa using p5 k hk)
      | succ m =>
        have := q5 m (by (first | lia | omega)) k hk
        rw [p4] at this
        rw [show H.length + 4 * (m + 1) + 1 + k = H.length + 4 + 4 * m + 1 + k by (first | lia | omega), show i + (m + 1) = i + 1 + m by (first | lia | omega)]
        exact this
    · rw [q6 y h1 h2, p6 y h1, CL.lookup_set, if_neg h2]
end Mine
end

section
set_option maxRecDepth 100000
set_option linter.unusedVariables false
set_option autoImplicit false
namespace Mine
open PySem
local macro_rules | `(tactic| walk_at "lk") => `(tactic| first | assumption | exact lk_eq | (apply lk_ne (by decide); walk_at "lk") | rfl)
local macro_rules | `(tactic| walk_at "hp") => `(tactic| first | assumption | (apply hp_app; walk_at "hp") | (apply hp_new0; rfl) | (apply hp_new; rfl) | (apply hp_set (by first | decide | (first | lia | omega)); walk_at "hp") | (apply hp_self; walk_at "hp"))
local macro_rules | `(tactic| walk_at "nm") => `(tactic| first | (apply nm_local rfl; walk_at "lk") | (apply nm_cell rfl rfl; walk_at "hp") | (apply nm_free rfl rfl; walk_at "hp") | exact nm_num rfl rfl)
local macro_rules | `(tactic| walk_at "st") => `(tactic| first | exact set_local rfl | (apply set_cell rfl rfl (h0 := by decide); walk_at "hp"))
local macro_rules | `(tactic| walk_at "bt") => `(tactic| first | (apply bt1; walk_at "st") | (apply bt2; walk_at "st"; walk_at "st") | (apply bt3; walk_at "hp"; walk_at "st"; walk_at "st"))
local macro_rules | `(tactic| walk_at "gi") => `(tactic| first | assumption | (apply gi_list; walk_at "hp"; (first | assumption | decide | (simp; done)); (first | assumption | rfl)) | (apply gi_tup; walk_at "hp"; (first | assumption | decide | (simp; done)); (first | assumption | rfl)))
local macro_rules | `(tactic| walk_at "ev") => `(tactic| first
  | exact Ev.int | exact Ev.str | exact Ev.bool | exact Ev.dict0
  | (apply Ev.name; walk_at "nm")
  | (apply Ev.sub rfl; walk_at "ev"; walk_at "ev"; walk_at "gi")
  | (apply Ev.neg; walk_at "ev")
  | (apply Ev.bin; walk_at "ev"; walk_at "ev"; first | assumption | rfl)
  | (apply Ev.cmp rfl; walk_at "ev"; walk_at "ev"; first | assumption | rfl))
local macro_rules | `(tactic| walk_at "ts") => `(tactic| first
  | (apply Ts.cmp rfl; walk_at "ev"; walk_at "ev"; first | assumption | rfl))
local macro_rules | `(tactic| walk_at "ex") => `(tactic| first
  | (apply Ex.set rfl; walk_at "ev"; walk_at "st")
  | (apply Ex.ret; walk_at "ev") | exact Ex.brk)
theorem Kq.fresh {n : Nat} {H H' : CH} (k : Kq [n] H H') (h : H.length ≤ n) : Kp H H' := ⟨k.len, fun m o a e => k.keep m o a (by have := lt_of e; simp; (first | lia | omega)) e⟩
theorem Kp.pre_keep {H H' : CH} (k : Kp H H') {n : Nat} {o : CO} (h : H[n]? = some o) (h9 : 9 ≤ n) : H'[n]? = some o := k.keep n o h9 h
noncomputable def Rr (n0 i j : Nat) : Nat := n0 + 4 * i + 1 + j
/-- rows filled -/
theorem seg_rows {H : CH} {c : Nat → Option CV} {L : CL} {aw ac : Nat} {cc : Nat → Nat} {x : Nat → Int} {d : Nat → Nat → Int} (hC : CellsAt H c) (c2 : c 2 = some (.loc ac))
    (hw : H[aw]? = some (.list [.str (wd (x 0)), .str (wd (x 1)), .str (wd (x 2)), .str (wd (x 3)), .str (wd (x 4)), .str (wd (x 5))])) (hcs : H[ac]? = some (.list [.loc (cc 0), .loc (cc 1), .loc (cc 2)])) (hcl : ∀ i, i < 3 → H[cc i]? = some (.list (intL (callL (x i)))))
    (nine : 9 ≤ aw ∧ 9 ≤ ac ∧ ∀ i, i < 3 → 9 ≤ cc i) (nc : NoCode H) (g : L.lookup ("words" : Str) = some (.loc aw))
    (hd : ∀ i, i < 3 → ∀ j, j < 3 → ∀ H, codeAt H 0 = none → Fn_ levF 6 [.str (wd (x i)), .str (wd (x (3 + j))), .int 4] H (.int (d i j)) H ∧ Fn_ farF 6 [.str (wd (x i)), .str (wd (x (3 + j)))] H (.int (d i j)) H) :
    ∃ L' H' c' ar n0, Exs lawE [lawS 4, lawS 5] L H .next L' H' ∧ Kp H H' ∧ CellsAt H' c' ∧ c' 3 = some (.loc ar) ∧ 9 ≤ ar ∧ 9 ≤ n0 ∧ H'[ar]? = some (.list ((blocks n0 3).map .loc)) ∧ (∀ i, i < 3 → ∀ j, j < 3 → H'[Rr n0 i j]? = some (.tup (intL (rowV d x i j)))) ∧
      (∀ y : Str, y ≠ "told" → y ≠ "i" → L'.lookup y = L.lookup y) ∧ ∀ k, k ≠ 3 → k ≠ 4 → c' k = c k := by
  have h9 := hC.len
  have p := List.prefix_append H [CO.list []]
  have s4 : Ex lawE (lawS 4) L H .next L ((H ++ [CO.list []]).set 3 (.cell (some (.loc H.length)))) :=
    Ex.set rfl (Ev.list Es.nil (by simp)) (set_cell rfl rfl ((hC.pre p).at_ 3 (by decide) (by decide)) (by decide))
  have k4 : Kp H ((H ++ [CO.list []]).set 3 (.cell (some (.loc H.length)))) := (Kp.of_pre p).trans (Kp.cell (by decide))
  have C4 := (hC.pre p).set (k := 3) (some (.loc H.length)) (by decide)
  have r4 : ((H ++ [CO.list []]).set 3 (.cell (some (.loc H.length))))[H.length]? = some (.list []) := hp_set (by (first | lia | omega)) (hp_new0 rfl)
  have l4 : ((H ++ [CO.list []]).set 3 (.cell (some (.loc H.length)))).length = H.length + 1 := by simp
  have nc4 : NoCode ((H ++ [CO.list []]).set 3 (.cell (some (.loc H.length)))) := (nc.app (.cons (by intro z; cases z) .nil)).set (by intro z; cases z)
  generalize (H ++ [CO.list []]).set 3 (.cell (some (.loc H.length))) = H4 at s4 k4 C4 r4 l4 nc4
  have rb : RB H4 _ aw ac H.length cc x [] := ⟨C4, by simpa using c2, by simp, k4.keep _ _ nine.1 hw, k4.keep _ _ nine.2.1 hcs, fun i h => k4.keep _ _ (nine.2.2 i h) (hcl i h), r4,
    ⟨by have := lt_of hw; (first | lia | omega), by have := lt_of hcs; (first | lia | omega), fun i h => by have := lt_of (hcl i h); (first | lia | omega)⟩, ⟨h9, nine.1, nine.2.1, nine.2.2⟩, by simp, nc4⟩
  obtain ⟨L', H', c', q1, q2, q3, q4, q5, q6, q7⟩ := outer_go (d := d) hd 3 0 (H4 ++ [.range 0 3 1]) _ L [] rfl (rb.app (.cons (by intro z; cases z) .nil)) (by simp) g
  have l5 : (H4 ++ [CO.range 0 3 1]).length = H.length + 2 := by simp [l4]
  rw [l5] at q2 q4 q5
  refine ⟨L', H', c', H.length, H.length + 2, Exs.cons s4 (Exs.cons (Ex.for_ (range_src rfl) q1) Exs.nil), ?_, q2.cells, q2.c3, h9, by (first | lia | omega), by simpa using q2.rows, fun i hi j hj => ?_, fun y h1 h2 => q6 y h1 h2, fun k h1 h2 => ?_⟩
  · refine Kq.fresh (n := H.length) ?_ (Nat.le_refl _)
    exact (k4.q.trans (Kq.app _)).trans q3
  · have := q5 i hi j hj
    rw [Nat.zero_add] at this
    exact this
  · rw [q7 k h2]
    simp [h1]
theorem KeysAt.kq {K : List Nat} {H H' : CH} {n d l : Nat} {ks : List (Int × Int)} {ts : List Nat} (k : Kq K H H') (h : KeysAt H n ks d l ts) (h9 : 9 ≤ n ∧ 9 ≤ d ∧ 9 ≤ l ∧ ∀ t ∈ ts, 9 ≤ t) (hk : n ∉ K ∧ d ∉ K ∧ l ∉ K ∧ ∀ t ∈ ts, t ∉ K) : KeysAt H' n ks d l ts :=
  ⟨k.keep _ _ h9.1 hk.1 h.inst, k.keep _ _ h9.2.1 hk.2.1 h.dict, k.keep _ _ h9.2.2.1 hk.2.2.1 h.list, h.len, h.few, fun i t e => let ⟨a, b, u, v⟩ := h.tups i t e; ⟨a, b, u, k.keep _ _ (h9.2.2.2 t (List.mem_of_getElem? e)) (hk.2.2.2 t (List.mem_of_getElem? e)) v⟩⟩
noncomputable def nearK : List (Int × Int) := [(0, 1), (3, 1)]
noncomputable def dearK : List (Int × Int) := [(1, -1), (0, 1), (2, -1)]
theorem seg_near {H : CH} {L : CL} : ∃ H', Ex lawE (lawS 6) L H .next (L.set "near" (.loc (H.length + 4))) H' ∧ H <+: H' ∧ KeysAt H' (H.length + 4) nearK (H.length + 3) (H.length + 2) [H.length, H.length + 1] := by
  have l1 : (H ++ [CO.tup (intL [0, 1])]).length = H.length + 1 := by simp
  have l2 : (H ++ [CO.tup (intL [0, 1])] ++ [CO.tup (intL [3, 1])]).length = H.length + 2 := by simp
  have l3 : (H ++ [CO.tup (intL [0, 1])] ++ [CO.tup (intL [3, 1])] ++ [CO.list [.loc H.length, .loc (H.length + 1)]]).length = H.length + 3 := by simp
  have e : Es lawE L [argE 0 (asgE (lawS 6))] H [.loc (H.length + 2)] (H ++ [CO.tup (intL [0, 1])] ++ [CO.tup (intL [3, 1])] ++ [CO.list [.loc H.length, .loc (H.length + 1)]]) := by
    refine Es.cons rfl ?_ Es.nil
    rw [← l2]
    refine Ev.list (vs := [.loc H.length, .loc (H.length + 1)]) (Es.cons (H1 := H ++ [CO.tup (intL [0, 1])]) rfl ?_ (Es.cons (H1 := H ++ [CO.tup (intL [0, 1])] ++ [CO.tup (intL [3, 1])]) rfl ?_ Es.nil)) (by simp)
    · exact Ev.tup (vs := intL [0, 1]) (Es.cons rfl Ev.int (Es.cons rfl Ev.int Es.nil)) (by decide)
    · rw [← l1]
      exact Ev.tup (vs := intL [3, 1]) (Es.cons rfl Ev.int (Es.cons rfl Ev.int Es.nil)) (by decide)
  have b : BiS .comp [.loc (H.length + 2)] (H ++ [CO.tup (intL [0, 1])] ++ [CO.tup (intL [3, 1])] ++ [CO.list [.loc H.length, .loc (H.length + 1)]]) (.loc (H.length + 4)) (H ++ [CO.tup (intL [0, 1])] ++ [CO.tup (intL [3, 1])] ++ [CO.list [.loc H.length, .loc (H.length + 1)]] ++ [.idict (some (H.length + 2)), .inst (H.length + 3)]) := by
    have := BiS.comp (n := H.length + 2) (H := (H ++ [CO.tup (intL [0, 1])] ++ [CO.tup (intL [3, 1])] ++ [CO.list [.loc H.length, .loc (H.length + 1)]]))
    rw [l3] at this
    exact this
  refine ⟨_, Ex.set rfl (Ev.bi rfl rfl rfl rfl e b) (set_local rfl), ?_, ?_⟩
  · exact ((List.prefix_append _ _).trans (List.prefix_append _ _)).trans ((List.prefix_append _ _).trans (List.prefix_append _ _))
  · refine ⟨?_, ?_, ?_, rfl, by simp, fun i t h => ?_⟩
    · rw [show H.length + 4 = H.length + 3 + 1 by (first | lia | omega), ← l3]; exact hp_new rfl
    · rw [← l3]; exact hp_new0 rfl
    · refine hp_app ?_; rw [← l2]; exact hp_new0 rfl
    · rcases i with _ | _ | i
      · cases h; exact ⟨0, 1, rfl, hp_app (hp_app (hp_app (hp_new0 rfl)))⟩
      · cases h; refine ⟨3, 1, rfl, hp_app (hp_app ?_)⟩; rw [← l1]; exact hp_new0 rfl
      · cases h
theorem seg_dear {H : CH} {L : CL} : ∃ H', Ex lawE (lawS 7) L H .next (L.set "dear" (.loc (H.length + 5))) H' ∧ H <+: H' ∧ KeysAt H' (H.length + 5) dearK (H.length + 4) (H.length + 3) [H.length, H.length + 1, H.length + 2] := by
  have l1 : (H ++ [CO.tup (intL [1, -1])]).length = H.length + 1 := by simp
  have l2 : (H ++ [CO.tup (intL [1, -1])] ++ [CO.tup (intL [0, 1])]).length = H.length + 2 := by simp
  have l3 : (H ++ [CO.tup (intL [1, -1])] ++ [CO.tup (intL [0, 1])] ++ [CO.tup (intL [2, -1])]).length = H.length + 3 := by simp
  have l4 : (H ++ [CO.tup (intL [1, -1])] ++ [CO.tup (intL [0, 1])] ++ [CO.tup (intL [2, -1])] ++ [CO.list [.loc H.length, .loc (H.length + 1), .loc (H.length + 2)]]).length = H.length + 4 := by simp
  have e : Es lawE L [argE 0 (asgE (lawS 7))] H [.loc (H.length + 3)] (H ++ [CO.tup (intL [1, -1])] ++ [CO.tup (intL [0, 1])] ++ [CO.tup (intL [2, -1])] ++ [CO.list [.loc H.length, .loc (H.length + 1), .loc (H.length + 2)]]) := by
    refine Es.cons rfl ?_ Es.nil
    rw [← l3]
    refine Ev.list (vs := [.loc H.length, .loc (H.length + 1), .loc (H.length + 2)]) (Es.cons (H1 := H ++ [CO.tup (intL [1, -1])]) rfl ?_ (Es.cons (H1 := H ++ [CO.tup (intL [1, -1])] ++ [CO.tup (intL [0, 1])]) rfl ?_ (Es.cons (H1 := H ++ [CO.tup (intL [1, -1])] ++ [CO.tup (intL [0, 1])] ++ [CO.tup (intL [2, -1])]) rfl ?_ Es.nil))) (by simp)
    · exact Ev.tup (vs := intL [1, -1]) (Es.cons rfl Ev.int (Es.cons rfl (Ev.neg Ev.int) Es.nil)) (by decide)
    · rw [← l1]
      exact Ev.tup (vs := intL [0, 1]) (Es.cons rfl Ev.int (Es.cons rfl Ev.int Es.nil)) (by decide)
    · rw [← l2]
      exact Ev.tup (vs := intL [2, -1]) (Es.cons rfl Ev.int (Es.cons rfl (Ev.neg Ev.int) Es.nil)) (by decide)
  have b : BiS .comp [.loc (H.length + 3)] (H ++ [CO.tup (intL [1, -1])] ++ [CO.tup (intL [0, 1])] ++ [CO.tup (intL [2, -1])] ++ [CO.list [.loc H.length, .loc (H.length + 1), .loc (H.length + 2)]]) (.loc (H.length + 5)) (H ++ [CO.tup (intL [1, -1])] ++ [CO.tup (intL [0, 1])] ++ [CO.tup (intL [2, -1])] ++ [CO.list [.loc H.length, .loc (H.length + 1), .loc (H.length + 2)]] ++ [.idict (some (H.length + 3)), .inst (H.length + 4)]) := by
    have := BiS.comp (n := H.length + 3) (H := (H ++ [CO.tup (intL [1, -1])] ++ [CO.tup (intL [0, 1])] ++ [CO.tup (intL [2, -1])] ++ [CO.list [.loc H.length, .loc (H.length + 1), .loc (H.length + 2)]]))
    rw [l4] at this
    exact this
  refine ⟨_, Ex.set rfl (Ev.bi rfl rfl rfl rfl e b) (set_local rfl), ?_, ?_⟩
  · exact (((List.prefix_append _ _).trans (List.prefix_append _ _)).trans (List.prefix_append _ _)).trans ((List.prefix_append _ _).trans (List.prefix_append _ _))
  · refine ⟨?_, ?_, ?_, rfl, by simp, fun i t h => ?_⟩
    · rw [show H.length + 5 = H.length + 4 + 1 by (first | lia | omega), ← l4]; exact hp_new rfl
    · rw [← l4]; exact hp_new0 rfl
    · refine hp_app ?_; rw [← l3]; exact hp_new0 rfl
    · rcases i with _ | _ | _ | i
      · cases h; exact ⟨1, -1, rfl, hp_app (hp_app (hp_app (hp_app (hp_new0 rfl))))⟩
      · cases h; refine ⟨0, 1, rfl, hp_app (hp_app (hp_app ?_))⟩; rw [← l1]; exact hp_new0 rfl
      · cases h; refine ⟨2, -1, rfl, hp_app (hp_app ?_)⟩; rw [← l2]; exact hp_new0 rfl
      · cases h
end Mine
end

section
set_option maxRecDepth 100000
set_option linter.unusedVariables false
set_option autoImplicit false
namespace Mine
open PySem
theorem filter_is {js : List Nat} (hn : js.Nodup) {m : Nat} (hm : m ∈ js) : js.filter (fun b => decide (b = m)) = [m] := by
  induction js with
  | nil => cases hm
  | cons a js ih =>
    rw [List.nodup_cons] at hn
    by_cases e : a = m
    · subst e
      rw [List.filter_cons_of_pos (by simp)]
      congr 1
      rw [List.filter_eq_nil_iff]
      intro b hb
      have : b ≠ a := fun z => hn.1 (z ▸ hb)
      simpa using this
    · rw [List.filter_cons_of_neg (by simpa using e)]
      exact ih hn.2 (by cases hm with | head => exact absurd rfl e | tail _ h => exact h)
theorem minB_is {js : List Nat} {lt : Nat → Nat → Bool} {m b : Nat} (hm : m ∈ js) (hb : b ∈ js) (h1 : ∀ b ∈ js, b ≠ m → lt m b = true) (h2 : ∀ b ∈ js, lt b m = false) : (js.filter (fun a => lt a b)).isEmpty = decide (b = m) := by
  by_cases e : b = m
  · subst e
    rw [show js.filter (fun a => lt a b) = [] from by rw [List.filter_eq_nil_iff]; intro a ha; rw [h2 a ha]; simp]
    simp
  · have : m ∈ js.filter (fun a => lt a b) := List.mem_filter.mpr ⟨hm, h1 b hb e⟩
    cases hq : js.filter (fun a => lt a b) with
    | nil => rw [hq] at this; cases this
    | cons x y => simp [e]
section
variable {c d : Nat → Nat → Int} {x : Nat → Int} {n0 : Nat}
noncomputable def valR (d : Nat → Nat → Int) (x : Nat → Int) (n0 r : Nat) : List Int := rowV d x ((r - n0 - 1) / 4) ((r - n0 - 1) % 4)
theorem valR_Rr {i j : Nat} (hj : j < 3) : valR d x n0 (Rr n0 i j) = rowV d x i j := by
  have h1 : (Rr n0 i j - n0 - 1) / 4 = i := by unfold Rr; (first | lia | omega)
  have h2 : (Rr n0 i j - n0 - 1) % 4 = j := by unfold Rr; (first | lia | omega)
  unfold valR
  rw [h1, h2]
theorem Rr_inj {i j a b : Nat} (hj : j < 3) (hb : b < 3) (e : Rr n0 i j = Rr n0 a b) : i = a ∧ j = b := by unfold Rr at e; (first | lia | omega)
noncomputable def callC (x : Nat → Int) (i j : Nat) : Int := (callL (x i)).getD j 0
theorem near_lt {i j k : Nat} : keyCmp nearK (rowV d x i j) (rowV d x i k) < 0 ↔ Nl d i j k := by
  simp only [keyCmp, nearK, rowV, Nl, List.getD_cons_zero, show (0 : Int).toNat = 0 from rfl, show (3 : Int).toNat = 3 from rfl, List.getD_cons_succ]
  repeat' split
  all_goals (first | lia | omega)
theorem dear_lt {i j k : Nat} : keyCmp dearK (rowV d x i j) (rowV d x k j) < 0 ↔ Dl (callC x) d j i k := by
  unfold Dl callC
  simp only [keyCmp, dearK, rowV, List.getD_cons_zero, show (0 : Int).toNat = 0 from rfl, show (1 : Int).toNat = 1 from rfl, show (2 : Int).toNat = 2 from rfl, List.getD_cons_succ]
  repeat' split
  all_goals (first | lia | omega)
noncomputable def nlB (d : Nat → Nat → Int) (i j k : Nat) : Bool := decide (d i j < d i k) || (decide (d i j = d i k) && decide (j < k))
theorem nlB_iff {i j k : Nat} : nlB d i j k = true ↔ Nl d i j k := by
  unfold nlB Nl
  simp only [Bool.or_eq_true, Bool.and_eq_true, decide_eq_true_eq]
theorem beat_near {i j k : Nat} (hj : j < 3) (hk : k < 3) : beat nearK (valR d x n0) (Rr n0 i k) (Rr n0 i j) = nlB d i j k := by
  unfold beat
  rw [valR_Rr hj, valR_Rr hk, Bool.eq_iff_iff, decide_eq_true_eq, nlB_iff]
  exact near_lt
theorem beat_dear {i j k : Nat} (hj : j < 3) : beat dearK (valR d x n0) (Rr n0 k j) (Rr n0 i j) = dlB (callC x) d j i k := by
  unfold beat
  rw [valR_Rr hj, valR_Rr hj, Bool.eq_iff_iff, decide_eq_true_eq, dlB_iff]
  exact dear_lt
theorem filter_map' {α β : Type} (f : α → β) (p : β → Bool) (l : List α) : (l.map f).filter p = (l.filter (fun a => p (f a))).map f := by
  induction l with
  | nil => rfl
  | cons a l ih =>
    rw [List.map_cons]
    cases h : p (f a) with
    | true => rw [List.filter_cons_of_pos h, List.filter_cons_of_pos (by exact h), ih, List.map_cons]
    | false => rw [List.filter_cons_of_neg (by simp [h]), List.filter_cons_of_neg (by simp [h]), ih]
theorem parts_by {ks : List (Int × Int)} {val : Nat → List Int} {f : Nat → Nat} {js : List Nat} {lt : Nat → Nat → Bool} {m : Nat} (hb : ∀ a ∈ js, ∀ b ∈ js, beat ks val (f b) (f a) = lt a b) (hn : js.Nodup) (hm : m ∈ js) (h1 : ∀ b ∈ js, b ≠ m → lt m b = true) (h2 : ∀ b ∈ js, lt b m = false) :
    (js.map f).filter (isMin ks val (js.map f)) = [f m] ∧ (js.map f).filter (fun r => !isMin ks val (js.map f) r) = (js.filter (fun b => !decide (b = m))).map f := by
  have key : ∀ b ∈ js, isMin ks val (js.map f) (f b) = decide (b = m) := fun b hb' => by
    unfold isMin
    rw [filter_map']
    rw [show js.filter (fun a => beat ks val (f b) (f a)) = js.filter (fun a => lt a b) from List.filter_congr fun a ha => hb a ha b hb']
    rw [List.isEmpty_map]
    exact minB_is hm hb' h1 h2
  constructor
  · rw [filter_map', List.filter_congr key, filter_is hn hm]
    rfl
  · rw [filter_map']
    congr 1
    exact List.filter_congr fun b hb' => by rw [key b hb']
noncomputable def left3 (A : Nat → Nat → Bool) (i : Nat) : List Nat := [0, 1, 2].filter fun j => !A i j
theorem mem_left3 {A : Nat → Nat → Bool} {i j : Nat} : j ∈ left3 A i ↔ j < 3 ∧ A i j = false := by
  unfold left3
  rw [List.mem_filter]
  constructor
  · rintro ⟨h, g⟩
    simp only [List.mem_cons, List.not_mem_nil, or_false] at h
    exact ⟨by (first | lia | omega), by simpa using g⟩
  · rintro ⟨h, g⟩
    refine ⟨?_, by simp [g]⟩
    simp only [List.mem_cons, List.not_mem_nil, or_false]
    (first | lia | omega)
theorem nodup_left3 {A : Nat → Nat → Bool} {i : Nat} : (left3 A i).Nodup := by
  unfold left3
  exact List.Nodup.sublist List.filter_sublist (by decide)
theorem near_part {s : St} {who j : Nat} (hj : j < 3) (hA : s.A who j = false) (hmin : ∀ b, b < 3 → s.A who b = false → b ≠ j → Nl d who j b) :
    ((left3 s.A who).map (Rr n0 who)).filter (isMin nearK (valR d x n0) ((left3 s.A who).map (Rr n0 who))) = [Rr n0 who j] ∧ ((left3 s.A who).map (Rr n0 who)).filter (fun r => !isMin nearK (valR d x n0) ((left3 s.A who).map (Rr n0 who)) r) = (left3 (s.ask who j) who).map (Rr n0 who) := by
  obtain ⟨h1, h2⟩ := parts_by (ks := nearK) (val := valR d x n0) (f := Rr n0 who) (js := left3 s.A who) (lt := nlB d who) (m := j) (fun a ha b hb => beat_near (mem_left3.mp ha).1 (mem_left3.mp hb).1) nodup_left3 (mem_left3.mpr ⟨hj, hA⟩) (fun b hb e => nlB_iff.mpr (hmin b (mem_left3.mp hb).1 (mem_left3.mp hb).2 e)) (fun b hb => by
    by_cases e : b = j
    · subst e
      exact Bool.eq_false_iff.mpr fun h => Nl.irr (nlB_iff.mp h)
    · exact Bool.eq_false_iff.mpr fun h => (hmin b (mem_left3.mp hb).1 (mem_left3.mp hb).2 e).asym (nlB_iff.mp h))
  refine ⟨h1, h2.trans ?_⟩
  congr 1
  unfold left3
  rw [List.filter_filter]
  refine List.filter_congr fun b hb => ?_
  unfold St.ask
  by_cases e : b = j
  · simp [e]
  · simp [e]
theorem left3_ne {s : St} {who j i : Nat} (h : i ≠ who) : left3 (s.ask who j) i = left3 s.A i := by
  unfold left3
  refine List.filter_congr fun b hb => ?_
  unfold St.ask
  simp [h]
theorem least {s : St} {who : Nat} (h : ∃ j, j < 3 ∧ s.A who j = false) : ∃ j, j < 3 ∧ s.A who j = false ∧ ∀ b, b < 3 → s.A who b = false → b ≠ j → Nl d who j b := by
  obtain ⟨j, hj, hA⟩ := h
  -- better and better
  have step : ∀ (n : Nat) (j : Nat), j < 3 → s.A who j = false → (∀ b, b < n → b < 3 → s.A who b = false → b ≠ j → Nl d who j b) → ∃ j, j < 3 ∧ s.A who j = false ∧ ∀ b, b < n + 1 → b < 3 → s.A who b = false → b ≠ j → Nl d who j b := fun n j hj hA h => by
    by_cases q : n < 3 ∧ s.A who n = false ∧ Nl d who n j
    · refine ⟨n, q.1, q.2.1, fun b hb b3 hAb ne => ?_⟩
      by_cases e : b = j
      · rw [e]; exact q.2.2
      · exact q.2.2.trans (h b (by (first | lia | omega)) b3 hAb e)
    · refine ⟨j, hj, hA, fun b hb b3 hAb ne => ?_⟩
      by_cases e : b = n
      · subst e
        rcases Nl.tri (d := d) who (Ne.symm ne) with g | g
        · exact g
        · exact absurd ⟨b3, hAb, g⟩ q
      · exact h b (by (first | lia | omega)) b3 hAb ne
  obtain ⟨j1, a1, b1, c1⟩ := step 0 j hj hA (fun b hb => absurd hb (Nat.not_lt_zero b))
  obtain ⟨j2, a2, b2, c2⟩ := step 1 j1 a1 b1 c1
  obtain ⟨j3, a3, b3, c3⟩ := step 2 j2 a2 b2 c2
  exact ⟨j3, a3, b3, fun b hb => c3 b hb hb⟩
noncomputable def heldI (hd : Nat → Option Nat) (j : Nat) : List Nat := match hd j with
  | none => []
  | some i => [i]
theorem dear_part {s : St} {who j : Nat} (hj : j < 3) (hf : s.hd j ≠ some who) {is : List Nat} (his : is = heldI s.hd j ++ [who]) :
    (is.map fun i => Rr n0 i j).filter (isMin dearK (valR d x n0) (is.map fun i => Rr n0 i j)) = [Rr n0 (winner (callC x) d s who j).1 j] ∧ (is.map fun i => Rr n0 i j).filter (fun r => !isMin dearK (valR d x n0) (is.map fun i => Rr n0 i j) r) = (winner (callC x) d s who j).2.map fun i => Rr n0 i j := by
  subst his
  have irr : ∀ i, dlB (callC x) d j i i = false := fun i => Bool.eq_false_iff.mpr fun h => Dl.irr (dlB_iff.mp h)
  have asym : ∀ {i k}, Dl (callC x) d j i k → dlB (callC x) d j k i = false := fun h => Bool.eq_false_iff.mpr fun g => h.asym (dlB_iff.mp g)
  cases h : s.hd j with
  | none =>
    have e1 : heldI s.hd j = [] := by simp [heldI, h]
    have e2 : winner (callC x) d s who j = (who, []) := by simp [winner, h]
    rw [e1, e2]
    obtain ⟨h1, h2⟩ := parts_by (ks := dearK) (val := valR d x n0) (f := fun i => Rr n0 i j) (js := [who]) (lt := dlB (callC x) d j) (m := who) (fun a ha b hb => beat_dear hj) (by simp) (by simp) (fun b hb e => absurd (List.mem_singleton.mp hb) e) (fun b hb => by rw [List.mem_singleton.mp hb]; exact irr _)
    refine ⟨h1, h2.trans ?_⟩
    simp
  | some i =>
    have ne : i ≠ who := fun z => hf (z ▸ h)
    have e1 : heldI s.hd j = [i] := by simp [heldI, h]
    have mem : ∀ b ∈ [i, who], b = i ∨ b = who := fun b hb => by simpa using hb
    by_cases q : dlB (callC x) d j who i = true
    · have e2 : winner (callC x) d s who j = (who, [i]) := by simp [winner, h, q]
      rw [e1, e2]
      obtain ⟨h1, h2⟩ := parts_by (ks := dearK) (val := valR d x n0) (f := fun i => Rr n0 i j) (js := [i, who]) (lt := dlB (callC x) d j) (m := who) (fun a ha b hb => beat_dear hj) (by simpa using ne) (by simp)
        (fun b hb e => by rcases mem b hb with rfl | rfl; exact q; exact absurd rfl e) (fun b hb => by rcases mem b hb with rfl | rfl; exact asym (dlB_iff.mp q); exact irr _)
      refine ⟨h1, h2.trans ?_⟩
      simp [ne]
    · have e2 : winner (callC x) d s who j = (i, [who]) := by simp [winner, h, q]
      have g : Dl (callC x) d j i who := by
        rcases Dl.tri (c := callC x) (d := d) j ne with g | g
        · exact g
        · exact absurd (dlB_iff.mpr g) q
      rw [e1, e2]
      obtain ⟨h1, h2⟩ := parts_by (ks := dearK) (val := valR d x n0) (f := fun i => Rr n0 i j) (js := [i, who]) (lt := dlB (callC x) d j) (m := i) (fun a ha b hb => beat_dear hj) (by simpa using ne) (by simp)
        (fun b hb e => by rcases mem b hb with rfl | rfl; exact absurd rfl e; exact dlB_iff.mpr g) (fun b hb => by rcases mem b hb with rfl | rfl; exact irr _; exact asym g)
      refine ⟨h1, h2.trans ?_⟩
      simp [Ne.symm ne]
end
end Mine
end

section
set_option maxRecDepth 100000
set_option linter.unusedVariables false
set_option autoImplicit false
namespace Mine
noncomputable def way6 : List (List Int) := [[0, 1, 2], [0, 2, 1], [1, 0, 2], [1, 2, 0], [2, 0, 1], [2, 1, 0]]
noncomputable def Pl (d : Nat → Nat → Int) (i : Nat) : List Int := order3 [d i 0, 0] [d i 1, 1] [d i 2, 2] (0 : Int) 1 2
noncomputable def Ql (c d : Nat → Nat → Int) (j : Nat) : List Int := order3 [-c 0 j, d 0 j, 0] [-c 1 j, d 1 j, -1] [-c 2 j, d 2 j, -2] (0 : Int) 1 2
section
variable {c d : Nat → Nat → Int} {i j : Nat}
theorem lex2 {a b p q : Int} : lexLt [a, b] [p, q] = true ↔ a < p ∨ (a = p ∧ b < q) := by
  simp only [lexLt]
  repeat' split
  all_goals simp_all
  all_goals (first | lia | omega)
theorem lex3 {a b c p q r : Int} : lexLt [a, b, c] [p, q, r] = true ↔ a < p ∨ (a = p ∧ (b < q ∨ (b = q ∧ c < r))) := by
  simp only [lexLt]
  repeat' split
  all_goals simp_all
  all_goals (first | lia | omega)
theorem nat3 {a : Nat} (h : a < 3) : a = 0 ∨ a = 1 ∨ a = 2 := by (first | lia | omega)
noncomputable def ordB (b10 b21 b20 : Bool) : List Int := if b10 then (if b21 then [2, 1, 0] else if b20 then [1, 2, 0] else [1, 0, 2]) else if b21 then (if b20 then [2, 0, 1] else [0, 2, 1]) else [0, 1, 2]
noncomputable def rB (b10 b21 b20 : Bool) (a b : Nat) : Bool := if a = b then false else if b < a then (if b = 1 then b21 else if a = 1 then b10 else b20) else !(if a = 1 then b21 else if b = 1 then b10 else b20)
theorem ordB_ok : ∀ b10 b21 b20 : Bool, ((b10 && b21 && !b20) || (!b10 && !b21 && b20)) = false → ordB b10 b21 b20 ∈ way6 ∧ ∀ a ∈ [0, 1, 2], ∀ b ∈ [0, 1, 2], rB b10 b21 b20 a b = decide ((ordB b10 b21 b20).idxOf ((a : Nat) : Int) < (ordB b10 b21 b20).idxOf ((b : Nat) : Int)) := by decide
theorem mem3 {a : Nat} (h : a < 3) : a ∈ [0, 1, 2] := by rcases nat3 h with rfl | rfl | rfl <;> decide
theorem ord_gen {r : Nat → Nat → Bool} (irr : ∀ a, r a a = false) (anti : ∀ a b, a ≠ b → r a b = !r b a) (tr : ∀ a b e, r a b = true → r b e = true → r a e = true) : ordB (r 1 0) (r 2 1) (r 2 0) ∈ way6 ∧ ∀ a b, a < 3 → b < 3 → (r a b = true ↔ (ordB (r 1 0) (r 2 1) (r 2 0)).idxOf (a : Int) < (ordB (r 1 0) (r 2 1) (r 2 0)).idxOf (b : Int)) := by
  have t1 := tr 2 1 0
  have t2 := tr 0 1 2
  have a1 := anti 0 1 (by decide)
  have a2 := anti 1 2 (by decide)
  have a3 := anti 0 2 (by decide)
  rw [a1, a2, a3] at t2
  have con : ((r 1 0 && r 2 1 && !r 2 0) || (!r 1 0 && !r 2 1 && r 2 0)) = false := by
    revert t1 t2
    cases r 1 0 <;> cases r 2 1 <;> cases r 2 0 <;> decide
  obtain ⟨h1, h2⟩ := ordB_ok _ _ _ con
  refine ⟨h1, fun a b ha hb => ?_⟩
  have key : r a b = rB (r 1 0) (r 2 1) (r 2 0) a b := by
    rcases nat3 ha with rfl | rfl | rfl <;> rcases nat3 hb with rfl | rfl | rfl <;> first | exact irr _ | rfl | exact a1 | exact a2 | exact a3
  rw [key, h2 a (mem3 ha) b (mem3 hb), decide_eq_true_eq]
theorem lex_nl {a b : Nat} {p q : Int} (hp : (a : Int) = p) (hq : (b : Int) = q) : lexLt [d i a, p] [d i b, q] = nlB d i a b := by
  subst hp hq
  rw [Bool.eq_iff_iff, lex2, nlB_iff, Nl, Int.ofNat_lt]
theorem lex_dl {a b : Nat} {p q : Int} (hp : -(a : Int) = p) (hq : -(b : Int) = q) : lexLt [-c a j, d a j, p] [-c b j, d b j, q] = dlB c d j a b := by
  subst hp hq
  rw [Bool.eq_iff_iff, lex3, dlB_iff]
  unfold Dl
  rw [Int.neg_lt_neg_iff, Int.neg_inj, Int.neg_lt_neg_iff, Int.ofNat_lt]
theorem Pl_is : Pl d i = ordB (nlB d i 1 0) (nlB d i 2 1) (nlB d i 2 0) := by
  rw [← lex_nl (a := 1) (b := 0) (p := 1) (q := 0) rfl rfl, ← lex_nl (a := 2) (b := 1) (p := 2) (q := 1) rfl rfl, ← lex_nl (a := 2) (b := 0) (p := 2) (q := 0) rfl rfl]
  rfl
theorem Ql_is : Ql c d j = ordB (dlB c d j 1 0) (dlB c d j 2 1) (dlB c d j 2 0) := by
  rw [← lex_dl (a := 1) (b := 0) (p := -1) (q := 0) rfl rfl, ← lex_dl (a := 2) (b := 1) (p := -2) (q := -1) rfl rfl, ← lex_dl (a := 2) (b := 0) (p := -2) (q := 0) rfl rfl]
  rfl
theorem Pl_all : Pl d i ∈ way6 ∧ ∀ a b, a < 3 → b < 3 → (Nl d i a b ↔ (Pl d i).idxOf (a : Int) < (Pl d i).idxOf (b : Int)) := by
  obtain ⟨h1, h2⟩ := ord_gen (r := nlB d i) (fun a => Bool.eq_false_iff.mpr fun h => Nl.irr (nlB_iff.mp h)) (fun a b e => by
    rcases Nl.tri (d := d) i e with g | g
    · rw [nlB_iff.mpr g, Bool.eq_false_iff.mpr fun h => g.asym (nlB_iff.mp h)]; rfl
    · rw [nlB_iff.mpr g, Bool.eq_false_iff.mpr fun h => g.asym (nlB_iff.mp h)]; rfl) (fun a b e h g => nlB_iff.mpr ((nlB_iff.mp h).trans (nlB_iff.mp g)))
  rw [Pl_is]
  exact ⟨h1, fun a b ha hb => nlB_iff.symm.trans (h2 a b ha hb)⟩
theorem Ql_all : Ql c d j ∈ way6 ∧ ∀ a b, a < 3 → b < 3 → (Dl c d j a b ↔ (Ql c d j).idxOf (a : Int) < (Ql c d j).idxOf (b : Int)) := by
  obtain ⟨h1, h2⟩ := ord_gen (r := dlB c d j) (fun a => Bool.eq_false_iff.mpr fun h => Dl.irr (dlB_iff.mp h)) (fun a b e => by
    rcases Dl.tri (c := c) (d := d) j e with g | g
    · rw [dlB_iff.mpr g, Bool.eq_false_iff.mpr fun h => g.asym (dlB_iff.mp h)]; rfl
    · rw [dlB_iff.mpr g, Bool.eq_false_iff.mpr fun h => g.asym (dlB_iff.mp h)]; rfl) (fun a b e h g => dlB_iff.mpr ((dlB_iff.mp h).trans (dlB_iff.mp g)))
  rw [Ql_is]
  exact ⟨h1, fun a b ha hb => dlB_iff.symm.trans (h2 a b ha hb)⟩
theorem perm_idx {p : List Int} (hp : p ∈ way6) {a : Nat} (ha : a < 3) : p.idxOf (a : Int) < 3 ∧ p[p.idxOf (a : Int)]? = some (a : Int) ∧ (a : Int) ∈ p := by
  have : ∀ p ∈ way6, ∀ a ∈ [0, 1, 2], p.idxOf ((a : Nat) : Int) < 3 ∧ p[p.idxOf (a : Int)]? = some (a : Int) ∧ (a : Int) ∈ p := by decide
  exact this p hp a (by rcases nat3 ha with rfl | rfl | rfl <;> decide)
theorem perm_inj {p : List Int} (hp : p ∈ way6) {a b : Nat} (ha : a < 3) (hb : b < 3) (e : p.idxOf (a : Int) = p.idxOf (b : Int)) : a = b := by
  have h1 := (perm_idx hp ha).2.1
  have h2 := (perm_idx hp hb).2.1
  rw [e, h2] at h1
  have := Option.some.inj h1
  (first | lia | omega)
theorem perm_len {p : List Int} (hp : p ∈ way6) : p.length = 3 ∧ p.Nodup ∧ ∀ x ∈ p, 0 ≤ x ∧ x < 3 := by
  have : ∀ p ∈ way6, p.length = 3 ∧ p.Nodup ∧ ∀ x ∈ p, 0 ≤ x ∧ x < 3 := by decide
  exact this p hp
end
/-- what the last state says -/
structure Fin3 (c d : Nat → Nat → Int) (s : St) (m w : Nat → Nat) : Prop where
  S : Stab c d m w
  hd : ∀ j, j < 3 → s.hd j = some (w j)
  best : ∀ m' w', Stab c d m' w' → ∀ i, i < 3 → m i = m' i ∨ Nl d i (m i) (m' i)
  worst : ∀ m' w', Stab c d m' w' → ∀ j, j < 3 → w' j = w j ∨ Dl c d j (w' j) (w j)
  ask : ∀ i j, i < 3 → j < 3 → (s.A i j = true ↔ j = m i ∨ Nl d i j (m i))
section
variable {c d : Nat → Nat → Int}
theorem Inv.fin {s : St} (I : Inv c d s) (hf : s.fr = []) : ∃ m w, Fin3 c d s m w := by
  have h : ∀ i, i < 3 → ∃ j, j < 3 ∧ s.hd j = some i := fun i hi => by
    refine Classical.byContradiction fun hn => ?_
    have : i ∈ s.fr := (I.free i hi).mpr fun j hj e => hn ⟨j, hj, e⟩
    rw [hf] at this
    cases this
  obtain ⟨m0, a0, b0⟩ := h 0 (by decide)
  obtain ⟨m1, a1, b1⟩ := h 1 (by decide)
  obtain ⟨m2, a2, b2⟩ := h 2 (by decide)
  obtain ⟨m, hm⟩ : ∃ m : Nat → Nat, ∀ i, i < 3 → m i < 3 ∧ s.hd (m i) = some i := ⟨fun i => if i = 0 then m0 else if i = 1 then m1 else m2, fun i hi => by
    rcases nat3 hi with rfl | rfl | rfl
    · exact ⟨a0, b0⟩
    · exact ⟨a1, b1⟩
    · exact ⟨a2, b2⟩⟩
  have ne : ∀ i k, i < 3 → k < 3 → i ≠ k → m i ≠ m k := fun i k hi hk e z => by
    have h1 := (hm i hi).2
    rw [z, (hm k hk).2] at h1
    exact e (Option.some.inj h1).symm
  have hit : ∀ j, j < 3 → ∃ i, i < 3 ∧ m i = j := fun j hj => by
    have n1 := ne 0 1 (by decide) (by decide) (by decide)
    have n2 := ne 0 2 (by decide) (by decide) (by decide)
    have n3 := ne 1 2 (by decide) (by decide) (by decide)
    have k0 := (hm 0 (by decide)).1
    have k1 := (hm 1 (by decide)).1
    have k2 := (hm 2 (by decide)).1
    by_cases e0 : m 0 = j
    · exact ⟨0, by decide, e0⟩
    · by_cases e1 : m 1 = j
      · exact ⟨1, by decide, e1⟩
      · exact ⟨2, by decide, Classical.byContradiction fun e2 => four3 k0 k1 k2 hj e0 e1 e2 n1 n2 n3⟩
  obtain ⟨w, hw⟩ : ∃ w : Nat → Nat, ∀ j, j < 3 → w j < 3 ∧ m (w j) = j ∧ s.hd j = some (w j) := ⟨fun j => (s.hd j).getD 0, fun j hj => by
    obtain ⟨i, hi, e⟩ := hit j hj
    have := (hm i hi).2
    rw [e] at this
    show (s.hd j).getD 0 < 3 ∧ m ((s.hd j).getD 0) = j ∧ s.hd j = some ((s.hd j).getD 0)
    rw [this]
    exact ⟨hi, e, rfl⟩⟩
  have wm : ∀ i, i < 3 → w (m i) = i := fun i hi => by
    have h1 := (hw (m i) (hm i hi).1).2.2
    rw [(hm i hi).2] at h1
    exact (Option.some.inj h1).symm
  have ask : ∀ i j, i < 3 → j < 3 → (s.A i j = true ↔ j = m i ∨ Nl d i j (m i)) := fun i j hi hj => by
    obtain ⟨_, q2, q3⟩ := I.hold (m i) i (hm i hi).1 (hm i hi).2
    constructor
    · exact q3 j hj
    · rintro (rfl | g)
      · exact q2
      · exact I.pre i (m i) j hi (hm i hi).1 hj q2 g
  have S : Stab c d m w := ⟨fun i hi => (hm i hi).1, fun j hj => (hw j hj).1, wm, fun j hj => (hw j hj).2.1, fun i j hi hj g hd => by
    have hA := (ask i j hi hj).mpr (.inr g)
    obtain ⟨k, hk, e⟩ := I.best i j hi hj hA
    rw [(hw j hj).2.2] at hk
    cases hk
    rcases e with e | e
    · have : m i = j := by rw [← e]; exact (hw j hj).2.1
      rw [this] at g
      exact Nl.irr g
    · exact hd.asym e⟩
  have best : ∀ m' w', Stab c d m' w' → ∀ i, i < 3 → m i = m' i ∨ Nl d i (m i) (m' i) := fun m' w' S' i hi => by
    by_cases e : m i = m' i
    · exact .inl e
    · rcases Nl.tri (d := d) i e with g | g
      · exact .inr g
      · have hA := (ask i (m' i) hi (S'.m3 i hi)).mpr (.inr g)
        exact absurd rfl (I.rej m' w' S' i (m' i) hi (S'.m3 i hi) hA fun z => e (I.one (hm i hi).1 (S'.m3 i hi) (hm i hi).2 z))
  refine ⟨m, w, S, fun j hj => (hw j hj).2.2, best, fun m' w' S' j hj => ?_, ask⟩
  by_cases e : w' j = w j
  · exact .inl e
  · rcases Dl.tri (c := c) (d := d) j e with g | g
    · exact .inr g
    · have wj := (hw j hj).1
      have mj := (hw j hj).2.1
      rcases best m' w' S' (w j) wj with z | z
      · have := S'.wm (w j) wj
        rw [← z, mj] at this
        exact absurd this e
      · rw [mj] at z
        exact absurd g (S'.st (w j) j wj hj z)
theorem go_iff {ms : List Int} {Q : Nat → List Int} {i : Nat} : ∀ {p : List Int}, p.Nodup → ms.getD i 0 ∈ p → (goRow ms Q i p = true ↔ ∀ j ∈ p, p.idxOf j < p.idxOf (ms.getD i 0) → ¬ (Q j.toNat).idxOf (i : Int) < (Q j.toNat).idxOf ((ms.idxOf j : Nat) : Int))
  | [], _, h => by cases h
  | a :: p, hn, h => by
    rw [List.nodup_cons] at hn
    unfold goRow
    by_cases e : a = ms.getD i 0
    · rw [if_pos e]
      simp only [true_iff]
      intro j hj
      rw [← e, List.idxOf_cons_self]
      (first | lia | omega)
    · rw [if_neg e]
      have hm : ms.getD i 0 ∈ p := by cases h with | head => exact absurd rfl e | tail _ h => exact h
      have up : ∀ b ∈ p, (a :: p).idxOf b = p.idxOf b + 1 := fun b hb => by
        have : a ≠ b := fun z => hn.1 (z ▸ hb)
        rw [List.idxOf_cons, show (a == b) = false by simpa using this]
        rfl
      have ih := go_iff (ms := ms) (Q := Q) (i := i) hn.2 hm
      by_cases q : (Q a.toNat).idxOf (i : Int) < (Q a.toNat).idxOf ((ms.idxOf a : Nat) : Int)
      · rw [if_pos q]
        simp only [Bool.false_eq_true, false_iff]
        intro g
        exact g a (.head _) (by rw [up _ hm, List.idxOf_cons_self]; (first | lia | omega)) q
      · rw [if_neg q, ih]
        constructor
        · intro g j hj
          rcases List.mem_cons.mp hj with rfl | hj
          · intro _; exact q
          · rw [up _ hj, up _ hm]
            intro l
            exact g j hj (by (first | lia | omega))
        · intro g j hj l
          exact g j (.tail _ hj) (by rw [up _ hj, up _ hm]; (first | lia | omega))
noncomputable def mOf (ms : List Int) (i : Nat) : Nat := (ms.getD i 0).toNat
noncomputable def wOf (ms : List Int) (j : Nat) : Nat := ms.idxOf (j : Int)
theorem way_ok {ms : List Int} (h : ms ∈ way6) : (∀ i, i < 3 → mOf ms i < 3 ∧ ms.getD i 0 = (mOf ms i : Int) ∧ wOf ms (mOf ms i) = i) ∧ ∀ j, j < 3 → wOf ms j < 3 ∧ mOf ms (wOf ms j) = j := by
  have : ∀ ms ∈ way6, (∀ i ∈ [0, 1, 2], mOf ms i < 3 ∧ ms.getD i 0 = (mOf ms i : Int) ∧ wOf ms (mOf ms i) = i) ∧ ∀ j ∈ [0, 1, 2], wOf ms j < 3 ∧ mOf ms (wOf ms j) = j := by decide
  have h3 : ∀ {i : Nat}, i < 3 → i ∈ [0, 1, 2] := fun hi => by rcases nat3 hi with rfl | rfl | rfl <;> decide
  exact ⟨fun i hi => (this ms h).1 i (h3 hi), fun j hj => (this ms h).2 j (h3 hj)⟩
theorem stable_iff {ms : List Int} (h : ms ∈ way6) : stableB ms (Pl d) (Ql c d) = true ↔ Stab c d (mOf ms) (wOf ms) := by
  obtain ⟨w1, w2⟩ := way_ok h
  have row : ∀ i, i < 3 → (goRow ms (Ql c d) i (Pl d i) = true ↔ ∀ j, j < 3 → Nl d i j (mOf ms i) → ¬ Dl c d j i (wOf ms j)) := fun i hi => by
    obtain ⟨m3, mv, _⟩ := w1 i hi
    obtain ⟨pm, pl⟩ := Pl_all (d := d) (i := i)
    obtain ⟨l3, nd, lt3⟩ := perm_len pm
    rw [go_iff nd (by rw [mv]; exact (perm_idx pm m3).2.2), mv]
    constructor
    · intro g j hj hN hD
      refine g (j : Int) (perm_idx pm hj).2.2 ((pl j _ hj m3).mp hN) ?_
      rw [Int.toNat_natCast]
      exact (Ql_all.2 i _ hi (w2 j hj).1).mp hD
    · intro g j hj hlt hD
      obtain ⟨z1, z2⟩ := lt3 j hj
      obtain ⟨k, rfl⟩ := Int.eq_ofNat_of_zero_le z1
      have hk : k < 3 := by (first | lia | omega)
      rw [Int.toNat_natCast] at hD
      exact g k hk ((pl k _ hk m3).mpr hlt) ((Ql_all.2 i _ hi (w2 k hk).1).mpr hD)
  unfold stableB
  rw [Bool.and_eq_true, Bool.and_eq_true, row 0 (by decide), row 1 (by decide), row 2 (by decide)]
  constructor
  · rintro ⟨⟨g0, g1⟩, g2⟩
    refine ⟨fun i hi => (w1 i hi).1, fun j hj => (w2 j hj).1, fun i hi => (w1 i hi).2.2, fun j hj => (w2 j hj).2, fun i j hi hj => ?_⟩
    rcases nat3 hi with rfl | rfl | rfl
    · exact g0 j hj
    · exact g1 j hj
    · exact g2 j hj
  · intro S
    exact ⟨⟨fun j hj => S.st 0 j (by decide) hj, fun j hj => S.st 1 j (by decide) hj⟩, fun j hj => S.st 2 j (by decide) hj⟩
/-- the stable ways -/
noncomputable def stab6 (c d : Nat → Nat → Int) : List (List Int) := way6.filter fun ms => stableB ms (Pl d) (Ql c d)
theorem way6_all : ∀ a b e : Fin 3, a ≠ b → a ≠ e → b ≠ e → [((a : Nat) : Int), (b : Nat), (e : Nat)] ∈ way6 := by decide
theorem Fin3.way {s : St} {m w : Nat → Nat} (F : Fin3 c d s m w) : ∃ ms ∈ stab6 c d, (∀ i, i < 3 → mOf ms i = m i) ∧ ∀ j, j < 3 → wOf ms j = w j := by
  have h0 := F.S.m3 0 (by decide)
  have h1 := F.S.m3 1 (by decide)
  have h2 := F.S.m3 2 (by decide)
  have inj : ∀ i k, i < 3 → k < 3 → m i = m k → i = k := fun i k hi hk e => by rw [← F.S.wm i hi, e, F.S.wm k hk]
  have n1 : m 0 ≠ m 1 := fun e => absurd (inj 0 1 (by decide) (by decide) e) (by decide)
  have n2 : m 0 ≠ m 2 := fun e => absurd (inj 0 2 (by decide) (by decide) e) (by decide)
  have n3 : m 1 ≠ m 2 := fun e => absurd (inj 1 2 (by decide) (by decide) e) (by decide)
  have hm : [(m 0 : Int), m 1, m 2] ∈ way6 := way6_all ⟨m 0, h0⟩ ⟨m 1, h1⟩ ⟨m 2, h2⟩ (fun z => n1 (Fin.mk.inj z)) (fun z => n2 (Fin.mk.inj z)) (fun z => n3 (Fin.mk.inj z))
  obtain ⟨w1, w2⟩ := way_ok hm
  have em : ∀ i, i < 3 → mOf [(m 0 : Int), m 1, m 2] i = m i := fun i hi => by
    rcases nat3 hi with rfl | rfl | rfl <;> exact Int.toNat_natCast _
  have ew : ∀ j, j < 3 → wOf [(m 0 : Int), m 1, m 2] j = w j := fun j hj => by
    have := (w1 (w j) (F.S.w3 j hj)).2.2
    rw [em _ (F.S.w3 j hj), F.S.mw j hj] at this
    exact this
  refine ⟨_, List.mem_filter.mpr ⟨hm, (stable_iff hm).mpr ?_⟩, em, ew⟩
  refine ⟨fun i hi => (w1 i hi).1, fun j hj => (w2 j hj).1, fun i hi => (w1 i hi).2.2, fun j hj => (w2 j hj).2, fun i j hi hj => ?_⟩
  rw [em i hi, ew j hj]
  exact F.S.st i j hi hj
theorem foldmin {r : List Int} {x M : Int} (h1 : M ∈ x :: r) (h2 : ∀ a ∈ x :: r, M ≤ a) : r.foldl min x = M := by
  induction r generalizing x with
  | nil => exact (List.mem_singleton.mp h1).symm
  | cons y r ih =>
    rw [List.foldl_cons]
    have hx := h2 x (.head _)
    have hy := h2 y (.tail _ (.head _))
    refine ih ?_ fun a ha => ?_
    · rcases List.mem_cons.mp h1 with rfl | h1
      · rw [show min M y = M by (first | lia | omega)]; exact .head _
      · rcases List.mem_cons.mp h1 with rfl | h1
        · rw [show min x M = M by (first | lia | omega)]; exact .head _
        · exact .tail _ h1
    · rcases List.mem_cons.mp ha with rfl | ha
      · (first | lia | omega)
      · exact h2 a (.tail _ (.tail _ ha))
theorem foldmax {r : List Int} {x M : Int} (h1 : M ∈ x :: r) (h2 : ∀ a ∈ x :: r, a ≤ M) : r.foldl max x = M := by
  induction r generalizing x with
  | nil => exact (List.mem_singleton.mp h1).symm
  | cons y r ih =>
    rw [List.foldl_cons]
    have hx := h2 x (.head _)
    have hy := h2 y (.tail _ (.head _))
    refine ih ?_ fun a ha => ?_
    · rcases List.mem_cons.mp h1 with rfl | h1
      · rw [show max M y = M by (first | lia | omega)]; exact .head _
      · rcases List.mem_cons.mp h1 with rfl | h1
        · rw [show max x M = M by (first | lia | omega)]; exact .head _
        · exact .tail _ h1
    · rcases List.mem_cons.mp ha with rfl | ha
      · (first | lia | omega)
      · exact h2 a (.tail _ (.tail _ ha))
noncomputable def rkP (d : Nat → Nat → Int) (i j : Nat) : Nat := (Pl d i).idxOf (j : Int)
noncomputable def rkQ (c d : Nat → Nat → Int) (j i : Nat) : Nat := (Ql c d j).idxOf (i : Int)
theorem Fin3.minOf {s : St} {m w : Nat → Nat} (F : Fin3 c d s m w) {i : Nat} (hi : i < 3) : ∃ x r, (stab6 c d).map (fun ms => ((rkP d i (mOf ms i) : Nat) : Int)) = x :: r ∧ r.foldl min x = (rkP d i (m i) : Int) := by
  obtain ⟨ms, h1, h2, h3⟩ := F.way
  have hm : ((rkP d i (m i) : Nat) : Int) ∈ (stab6 c d).map (fun ms => ((rkP d i (mOf ms i) : Nat) : Int)) := List.mem_map.mpr ⟨ms, h1, by rw [h2 i hi]⟩
  have hl : ∀ a ∈ (stab6 c d).map (fun ms => ((rkP d i (mOf ms i) : Nat) : Int)), ((rkP d i (m i) : Nat) : Int) ≤ a := fun a ha => by
    obtain ⟨ms', q, rfl⟩ := List.mem_map.mp ha
    obtain ⟨q1, q2⟩ := List.mem_filter.mp q
    have S' := (stable_iff q1).mp q2
    rcases F.best _ _ S' i hi with e | g
    · rw [e]; exact Int.le_refl _
    · have := (Pl_all.2 _ _ (F.S.m3 i hi) (S'.m3 i hi)).mp g
      unfold rkP
      (first | lia | omega)
  cases hq : (stab6 c d).map (fun ms => ((rkP d i (mOf ms i) : Nat) : Int)) with
  | nil => rw [hq] at hm; cases hm
  | cons x r => rw [hq] at hm hl; exact ⟨x, r, rfl, foldmin hm hl⟩
theorem Fin3.maxOf {s : St} {m w : Nat → Nat} (F : Fin3 c d s m w) {j : Nat} (hj : j < 3) : ∃ x r, (stab6 c d).map (fun ms => ((rkQ c d j (wOf ms j) : Nat) : Int)) = x :: r ∧ r.foldl max x = (rkQ c d j (w j) : Int) := by
  obtain ⟨ms, h1, h2, h3⟩ := F.way
  have hm : ((rkQ c d j (w j) : Nat) : Int) ∈ (stab6 c d).map (fun ms => ((rkQ c d j (wOf ms j) : Nat) : Int)) := List.mem_map.mpr ⟨ms, h1, by rw [h3 j hj]⟩
  have hl : ∀ a ∈ (stab6 c d).map (fun ms => ((rkQ c d j (wOf ms j) : Nat) : Int)), a ≤ ((rkQ c d j (w j) : Nat) : Int) := fun a ha => by
    obtain ⟨ms', q, rfl⟩ := List.mem_map.mp ha
    obtain ⟨q1, q2⟩ := List.mem_filter.mp q
    have S' := (stable_iff q1).mp q2
    rcases F.worst _ _ S' j hj with e | g
    · rw [e]; exact Int.le_refl _
    · have := (Ql_all.2 _ _ (S'.w3 j hj) (F.S.w3 j hj)).mp g
      unfold rkQ
      (first | lia | omega)
  cases hq : (stab6 c d).map (fun ms => ((rkQ c d j (wOf ms j) : Nat) : Int)) with
  | nil => rw [hq] at hm; cases hm
  | cons x r => rw [hq] at hm hl; exact ⟨x, r, rfl, foldmax hm hl⟩
theorem Fin3.rank {s : St} {m w : Nat → Nat} (F : Fin3 c d s m w) {i j : Nat} (hi : i < 3) (hj : j < 3) : s.A i j = true ↔ rkP d i j ≤ rkP d i (m i) := by
  obtain ⟨pm, pl⟩ := Pl_all (d := d) (i := i)
  have m3 := F.S.m3 i hi
  rw [F.ask i j hi hj, pl j (m i) hj m3]
  unfold rkP
  constructor
  · rintro (rfl | h) <;> (first | lia | omega)
  · intro h
    by_cases e : j = m i
    · exact .inl e
    · refine .inr ?_
      have : (Pl d i).idxOf (j : Int) ≠ (Pl d i).idxOf (m i : Int) := fun z => e (perm_inj pm hj m3 z)
      (first | lia | omega)
/-- whom j was asked by -/
noncomputable def ask3 (s : St) (j : Nat) : List Nat := [0, 1, 2].filter fun i => s.A i j
noncomputable def b1 (b : Bool) : Nat := if b then 1 else 0
theorem len3 (f : Nat → Bool) : ([0, 1, 2].filter f).length = b1 (f 0) + b1 (f 1) + b1 (f 2) := by
  simp only [List.filter_cons, List.filter_nil, b1]
  repeat' split
  all_goals simp_all
theorem Inv.len {s : St} (I : Inv c d s) {j : Nat} (hj : j < 3) : (s.ak j).length = b1 (s.A 0 j) + b1 (s.A 1 j) + b1 (s.A 2 j) := by
  obtain ⟨nd, mem⟩ := I.and_ j hj
  have nd3 : (ask3 s j).Nodup := List.Nodup.sublist List.filter_sublist (by decide)
  have m3 : ∀ i, i ∈ ask3 s j ↔ i < 3 ∧ s.A i j = true := fun i => by
    unfold ask3
    rw [List.mem_filter]
    simp only [List.mem_cons, List.not_mem_nil, or_false]
    constructor
    · rintro ⟨a, b⟩; exact ⟨by (first | lia | omega), b⟩
    · rintro ⟨a, b⟩; exact ⟨by (first | lia | omega), b⟩
  have l1 := List.Nodup.length_le_of_subset nd (fun i hi => (m3 i).mpr ((mem i).mp hi) : s.ak j ⊆ ask3 s j)
  have l2 := List.Nodup.length_le_of_subset nd3 (fun i hi => (mem i).mpr ((m3 i).mp hi) : ask3 s j ⊆ s.ak j)
  have l3 : (ask3 s j).length = b1 (s.A 0 j) + b1 (s.A 1 j) + b1 (s.A 2 j) := len3 _
  (first | lia | omega)
theorem rank_sum : ∀ x y z w : Fin 3, x ≠ y → x ≠ z → y ≠ z → w.val + 1 = (if x.val ≤ w.val then 1 else 0) + (if y.val ≤ w.val then 1 else 0) + (if z.val ≤ w.val then 1 else 0) := by decide
theorem Fin3.total {s : St} {m w : Nat → Nat} (I : Inv c d s) (F : Fin3 c d s m w) : rkP d 0 (m 0) + rkP d 1 (m 1) + rkP d 2 (m 2) + 3 = s.n := by
  have one : ∀ i, i < 3 → rkP d i (m i) + 1 = b1 (s.A i 0) + b1 (s.A i 1) + b1 (s.A i 2) := fun i hi => by
    obtain ⟨pm, pl⟩ := Pl_all (d := d) (i := i)
    have m3 := F.S.m3 i hi
    have k0 : rkP d i 0 < 3 := (perm_idx pm (by decide : 0 < 3)).1
    have k1 : rkP d i 1 < 3 := (perm_idx pm (by decide : 1 < 3)).1
    have k2 : rkP d i 2 < 3 := (perm_idx pm (by decide : 2 < 3)).1
    have n1 : rkP d i 0 ≠ rkP d i 1 := fun e => absurd (perm_inj pm (by decide : 0 < 3) (by decide : 1 < 3) e) (by decide)
    have n2 : rkP d i 0 ≠ rkP d i 2 := fun e => absurd (perm_inj pm (by decide : 0 < 3) (by decide : 2 < 3) e) (by decide)
    have n3 : rkP d i 1 ≠ rkP d i 2 := fun e => absurd (perm_inj pm (by decide : 1 < 3) (by decide : 2 < 3) e) (by decide)
    have hM : rkP d i (m i) < 3 := (perm_idx pm m3).1
    have v : ∀ j, j < 3 → b1 (s.A i j) = if rkP d i j ≤ rkP d i (m i) then 1 else 0 := fun j hj => by
      have := F.rank hi hj
      unfold b1
      by_cases e : rkP d i j ≤ rkP d i (m i)
      · rw [if_pos e, if_pos (this.mpr e)]
      · rw [if_neg e, if_neg (fun z => e (this.mp z))]
    rw [v 0 (by decide), v 1 (by decide), v 2 (by decide)]
    exact rank_sum ⟨_, k0⟩ ⟨_, k1⟩ ⟨_, k2⟩ ⟨_, hM⟩ (fun z => n1 (Fin.mk.inj z)) (fun z => n2 (Fin.mk.inj z)) (fun z => n3 (Fin.mk.inj z))
  have o0 := one 0 (by decide)
  have o1 := one 1 (by decide)
  have o2 := one 2 (by decide)
  have l0 := I.len (j := 0) (by decide)
  have l1 := I.len (j := 1) (by decide)
  have l2 := I.len (j := 2) (by decide)
  have := I.cnt
  (first | lia | omega)
end
end Mine
end

section
set_option maxRecDepth 100000
set_option linter.unusedVariables false
set_option autoImplicit false
namespace Mine
open PySem
local macro_rules | `(tactic| walk_at "lk") => `(tactic| first | assumption | exact lk_eq | (apply lk_ne (by decide); walk_at "lk") | rfl)
local macro_rules | `(tactic| walk_at "hp") => `(tactic| first | assumption | (apply hp_app; walk_at "hp") | (apply hp_new0; rfl) | (apply hp_new; rfl) | (apply hp_set (by first | decide | (first | lia | omega)); walk_at "hp") | (apply hp_self; walk_at "hp"))
local macro_rules | `(tactic| walk_at "nm") => `(tactic| first | (apply nm_local rfl; walk_at "lk") | (apply nm_cell rfl rfl; walk_at "hp") | (apply nm_free rfl rfl; walk_at "hp") | exact nm_num rfl rfl)
local macro_rules | `(tactic| walk_at "st") => `(tactic| first | exact set_local rfl | (apply set_cell rfl rfl (h0 := by decide); walk_at "hp"))
local macro_rules | `(tactic| walk_at "bt") => `(tactic| first | (apply bt1; walk_at "st") | (apply bt2; walk_at "st"; walk_at "st") | (apply bt3; walk_at "hp"; walk_at "st"; walk_at "st"))
local macro_rules | `(tactic| walk_at "gi") => `(tactic| first | assumption | (apply gi_list; walk_at "hp"; (first | assumption | decide | (simp; done)); (first | assumption | rfl)) | (apply gi_tup; walk_at "hp"; (first | assumption | decide | (simp; done)); (first | assumption | rfl)))
local macro_rules | `(tactic| walk_at "ev") => `(tactic| first
  | exact Ev.int | exact Ev.str | exact Ev.bool | exact Ev.dict0
  | (apply Ev.name; walk_at "nm")
  | (apply Ev.sub rfl; walk_at "ev"; walk_at "ev"; walk_at "gi")
  | (apply Ev.neg; walk_at "ev")
  | (apply Ev.bin; walk_at "ev"; walk_at "ev"; first | assumption | rfl)
  | (apply Ev.cmp rfl; walk_at "ev"; walk_at "ev"; first | assumption | rfl))
local macro_rules | `(tactic| walk_at "ts") => `(tactic| first
  | (apply Ts.cmp rfl; walk_at "ev"; walk_at "ev"; first | assumption | rfl))
local macro_rules | `(tactic| walk_at "ex") => `(tactic| first
  | (apply Ex.set rfl; walk_at "ev"; walk_at "st")
  | (apply Ex.ret; walk_at "ev") | exact Ex.brk)
/-- the inner comprehension of ahead: rows of one i -/
noncomputable def ahO : Expr := asgE (lawS 8)
noncomputable def ahI : Expr := eltE ahO
noncomputable def ahE (k : Nat) : CE := inE ahO lawE [("i", k), ("rows", 3)]
theorem filt_go {ar k i acc : Nat} {f : Nat → Int} {all : List Nat} {val : Nat → List Int} : ∀ (rest done got : List Nat) (L : CL) (H : CH), all = done ++ rest → H[ar]? = some (.list (all.map .loc)) → (∀ r ∈ all, H[r]? = some (.tup (intL (val r))) ∧ (val r).length = 4) → H[k]? = some (.cell (some (.int i))) →
      H[acc]? = some (.list (got.map .loc)) → got.length + rest.length ≤ 900 → ar < acc → k < acc → (∀ r ∈ all, r < acc) →
      Cm (inE ahI (ahE k) [("i", k)]) ahI (.list ar done.length) acc L H (H.set acc (.list ((got ++ rest.filter (fun r => decide ((val r).getD 2 0 = (i : Int)))).map .loc)))
  | [], done, got, L, H, e, hr, ht, hk, ha, hz, g1, g2, g3 => by
    have : (all.map CV.loc)[done.length]? = none := by rw [e]; simp
    have hs : H.set acc (.list ((got ++ ([] : List Nat).filter (fun r => decide ((val r).getD 2 0 = (i : Int)))).map .loc)) = H := by
      obtain ⟨hl, e⟩ := List.getElem?_eq_some_iff.mp ha
      simp only [List.filter_nil, List.append_nil]
      rw [← e, List.set_getElem_self]
    rw [hs]
    exact Cm.done rfl (turn_list_end hr this)
  | r :: rest, done, got, L, H, e, hr, ht, hk, ha, hz, g1, g2, g3 => by
    have hi : (all.map CV.loc)[done.length]? = some (.loc r) := by rw [e]; simp
    have hm : r ∈ all := by rw [e]; simp
    obtain ⟨t1, t2⟩ := ht r hm
    have h2 : (intL (val r))[(2 : Int).toNat]? = some (.int ((val r).getD 2 0)) := by
      have : 2 < (val r).length := by (first | lia | omega)
      simp [intL, this]
    have lh : ∀ L : CL, (L.set "row" (.loc r)).lookup ("row" : Str) = some (.loc r) := fun L => lk_eq
    have test : ∀ z, decide ((val r).getD 2 0 = (i : Int)) = z → Tst (inE ahI (ahE k) [("i", k)]) (L.set "row" (.loc r)) (ifsE ahI) H z H := fun z hz => by
      show Ts _ _ _ _ _ _
      refine Ts.cmp (a := .int ((val r).getD 2 0)) (b := .int i) (H1 := H) rfl ?_ ?_ ?_
      · exact Ev.sub rfl (Ev.name (nm_local rfl lk_eq)) Ev.int (gi_tup t1 ⟨by decide, by simp [intL]; (first | lia | omega)⟩ h2)
      · exact Ev.name (nm_cell rfl rfl hk)
      · simp only [cmpop, hz]
    cases hb : decide ((val r).getD 2 0 = (i : Int)) with
    | true =>
      have key := filt_go (f := f) rest (done ++ [r]) (got ++ [r]) (L.set "row" (.loc r)) (H.set acc (.list (got.map .loc ++ [.loc r]))) (by rw [e]; simp) (hp_set (by (first | lia | omega)) hr) (fun r m => ⟨hp_set (by have := g3 r m; (first | lia | omega)) (ht r m).1, (ht r m).2⟩) (hp_set (by (first | lia | omega)) hk)
        (by rw [List.map_append]; exact hp_self ha) (by simp at hz ⊢; (first | lia | omega)) g1 g2 g3
      rw [List.set_set] at key
      have e2 : (got ++ [r] ++ rest.filter (fun r => decide ((val r).getD 2 0 = (i : Int)))) = got ++ (r :: rest).filter (fun r => decide ((val r).getD 2 0 = (i : Int))) := by
        rw [List.filter_cons_of_pos (by simpa using hb)]; simp
      rw [e2] at key
      refine Cm.add (turn_list hr hi) (bt1 (set_local rfl)) (test true hb) (Ev.name (nm_local rfl lk_eq)) ha ⟨by (first | lia | omega), by simp at hz ⊢; (first | lia | omega)⟩ ?_
      rw [show (done ++ [r]).length = done.length + 1 by simp] at key
      exact key
    | false =>
      have key := filt_go (f := f) rest (done ++ [r]) got (L.set "row" (.loc r)) H (by rw [e]; simp) hr ht hk ha (by simp at hz ⊢; (first | lia | omega)) g1 g2 g3
      have e2 : rest.filter (fun r => decide ((val r).getD 2 0 = (i : Int))) = (r :: rest).filter (fun r => decide ((val r).getD 2 0 = (i : Int))) := by
        rw [List.filter_cons_of_neg (by simpa using hb)]
      rw [e2] at key
      refine Cm.skip (turn_list hr hi) (bt1 (set_local rfl)) (test false hb) ?_
      rw [show (done ++ [r]).length = done.length + 1 by simp] at key
      exact key
theorem set_cell' {E : CE} {L : CL} {H H' : CH} {x : Str} {n : Nat} {u : Option CV} {v : CV} (hk : kindIn E x = some .cell) (hc : E.cells.lookup x = some n) (hn : H[n]? = some (.cell u)) (h0 : n ≠ 0) (he : H.set n (.cell (some v)) = H') : setName E x v L H = some (L, H') := by
  subst he
  exact set_cell hk hc hn h0
theorem seg_ahead {H : CH} {c : Nat → Option CV} {L : CL} {ar n0 : Nat} {val : Nat → List Int} (hC : CellsAt H c) (c3 : c 3 = some (.loc ar)) (hr : H[ar]? = some (.list ((blocks n0 3).map .loc))) (ht : ∀ r ∈ blocks n0 3, H[r]? = some (.tup (intL (val r))) ∧ (val r).length = 4)
    (hv : ∀ i : Nat, i < 3 → (blocks n0 3).filter (fun r => decide ((val r).getD 2 0 = (i : Int))) = List.range' (n0 + 4 * i + 1) 3) :
    ∃ H' a, Ex lawE (lawS 8) L H .next (L.set "ahead" (.loc a)) H' ∧ H <+: H' ∧ H.length ≤ a ∧ ∃ b : Nat → Nat, (∀ i, i < 3 → a < b i) ∧ H'[a]? = some (.list [.loc (b 0), .loc (b 1), .loc (b 2)]) ∧ ∀ i : Nat, i < 3 → H'[b i]? = some (.list ((List.range' (n0 + 4 * i + 1) 3).map .loc)) := by
  have h9 := hC.len
  have n3 : H[3]? = some (.cell (some (.loc ar))) := c3 ▸ hC.at_ 3 (by decide) (by decide)
  have hlr := lt_of hr
  have hlt : ∀ r ∈ blocks n0 3, r < H.length := fun r m => lt_of (ht r m).1
  let A : CH := H ++ [.range 0 3 1]
  have lA : A.length = H.length + 1 := by simp [A]
  have pA : H <+: A := List.prefix_append _ _
  have el : ∀ (i : Nat) (L : CL) (xs : List CV) (X : CH), i < 3 → Ev (ahE (A.length + 1)) L ahI (A ++ .list xs :: .cell (some (.int i)) :: X) (.loc (A.length + 2 + X.length)) (A ++ .list xs :: .cell (some (.int i)) :: (X ++ [.list ((List.range' (n0 + 4 * i + 1) 3).map .loc)])) := fun i L xs X hi => by
    have hl : (A ++ CO.list xs :: .cell (some (.int i)) :: X).length = A.length + 2 + X.length := by simp; (first | lia | omega)
    have pB : H <+: A ++ CO.list xs :: .cell (some (.int i)) :: X := pre_app pA _
    have key := filt_go (ar := ar) (k := A.length + 1) (i := i) (acc := (A ++ CO.list xs :: .cell (some (.int i)) :: X).length) (f := fun _ => 0) (all := blocks n0 3) (val := val) (blocks n0 3) [] [] [] (A ++ CO.list xs :: .cell (some (.int i)) :: X ++ [.list []]) (by simp) (hp_app (pre_get' pB hr))
      (fun r m => ⟨hp_app (pre_get' pB (ht r m).1), (ht r m).2⟩) (hp_app (hp_new rfl)) (hp_new0 rfl) (by simp [blocks]) (by (first | lia | omega)) (by (first | lia | omega)) (fun r m => by have := hlt r m; (first | lia | omega))
    rw [List.nil_append, hv i hi] at key
    have hs : (A ++ CO.list xs :: .cell (some (.int i)) :: X ++ [CO.list []]).set (A ++ CO.list xs :: .cell (some (.int i)) :: X).length (CO.list ((List.range' (n0 + 4 * i + 1) 3).map .loc)) = A ++ CO.list xs :: .cell (some (.int i)) :: (X ++ [.list ((List.range' (n0 + 4 * i + 1) 3).map .loc)]) := by
      rw [List.set_append_right _ _ (Nat.le_refl _), Nat.sub_self]
      simp
    rw [hs] at key
    rw [← hl]
    refine Ev.listComp (it := .list ar 0) (H1 := A ++ CO.list xs :: .cell (some (.int i)) :: X) rfl ?_ rfl key
    apply Sc.of
    · rfl
    · exact Ev.name (nm_cell rfl rfl (pre_get' pB n3))
    · exact it_list (pre_get' pB hr)
  have bind : ∀ (i : Nat) (L : CL) (xs : List CV) (u : Option CV) (X : CH), bindTarget (ahE (A.length + 1)) (.Name "i" ⟨0, 0, 0, 0⟩) [.int i] L (A ++ .list xs :: .cell u :: X) = some (L, A ++ .list xs :: .cell (some (.int i)) :: X) := fun i L xs u X => by
    refine bt1 (set_cell' (n := A.length + 1) rfl rfl (hp_new rfl) (by (first | lia | omega)) ?_)
    rw [List.set_append_right _ _ (by (first | lia | omega)), show A.length + 1 - A.length = 1 by (first | lia | omega)]
    rfl
  have src : Sc lawE L (genI ahO) H (.range 0 1 3) A := range_src rfl
  have env : compEnv (comS ahO) lawE (A ++ [.list []]) = some (ahE ((A ++ [CO.list []]).length), A ++ [.list []] ++ [.cell none]) := rfl
  rw [show (A ++ [CO.list []]).length = A.length + 1 by simp, show A ++ [CO.list []] ++ [CO.cell none] = A ++ .list [] :: [.cell none] by simp] at env
  have cm : Cm (ahE (A.length + 1)) ahO (.range 0 1 3) A.length [] (A ++ .list [] :: [.cell none]) (A ++ .list [.loc (A.length + 2), .loc (A.length + 3), .loc (A.length + 4)] :: .cell (some (.int 2)) :: [.list ((List.range' (n0 + 4 * 0 + 1) 3).map .loc), .list ((List.range' (n0 + 4 * 1 + 1) 3).map .loc), .list ((List.range' (n0 + 4 * 2 + 1) 3).map .loc)]) := by
    refine Cm.push (X := [.cell none]) (it' := .range 1 1 2) rfl (bind 0 _ _ _ []) ⟨rfl, rfl⟩ (el 0 _ _ [] (by decide)) ⟨by (first | lia | omega), by simp⟩ ?_
    refine Cm.push (it' := .range 2 1 1) rfl (bind 1 _ _ _ _) ⟨rfl, rfl⟩ (el 1 _ _ _ (by decide)) ⟨by (first | lia | omega), by simp⟩ ?_
    refine Cm.push (it' := .range 3 1 0) rfl (bind 2 _ _ _ _) ⟨rfl, rfl⟩ (el 2 _ _ _ (by decide)) ⟨by (first | lia | omega), by simp⟩ ?_
    exact Cm.done rfl rfl
  refine ⟨_, A.length, Ex.setComp rfl (Co.list rfl src env cm) (set_local rfl), pre_app pA _, by (first | lia | omega), fun i => A.length + 2 + i, fun i _ => by dsimp only; (first | lia | omega), hp_new0 rfl, fun i hi => ?_⟩
  rcases i with _ | _ | _ | i
  · exact hp_new (k := 2) rfl
  · exact hp_new (k := 3) rfl
  · exact hp_new (k := 4) rfl
  · (first | lia | omega)
end Mine
end

section
set_option maxRecDepth 100000
set_option linter.unusedVariables false
set_option autoImplicit false
namespace Mine
open PySem
local macro_rules | `(tactic| walk_at "lk") => `(tactic| first | assumption | exact lk_eq | (apply lk_ne (by decide); walk_at "lk") | rfl)
local macro_rules | `(tactic| walk_at "hp") => `(tactic| first | assumption | (apply hp_app; walk_at "hp") | (apply hp_new0; rfl) | (apply hp_new; rfl) | (apply hp_set (by first | decide | (first | lia | omega)); walk_at "hp") | (apply hp_self; walk_at "hp"))
local macro_rules | `(tactic| walk_at "nm") => `(tactic| first | (apply nm_local rfl; walk_at "lk") | (apply nm_cell rfl rfl; walk_at "hp") | (apply nm_free rfl rfl; walk_at "hp") | exact nm_num rfl rfl)
local macro_rules | `(tactic| walk_at "st") => `(tactic| first | exact set_local rfl | (apply set_cell rfl rfl (h0 := by decide); walk_at "hp"))
local macro_rules | `(tactic| walk_at "bt") => `(tactic| first | (apply bt1; walk_at "st") | (apply bt2; walk_at "st"; walk_at "st") | (apply bt3; walk_at "hp"; walk_at "st"; walk_at "st"))
local macro_rules | `(tactic| walk_at "gi") => `(tactic| first | assumption | (apply gi_list; walk_at "hp"; (first | assumption | decide | (simp; done)); (first | assumption | rfl)) | (apply gi_tup; walk_at "hp"; (first | assumption | decide | (simp; done)); (first | assumption | rfl)))
local macro_rules | `(tactic| walk_at "ev") => `(tactic| first
  | exact Ev.int | exact Ev.str | exact Ev.bool | exact Ev.dict0
  | (apply Ev.name; walk_at "nm")
  | (apply Ev.sub rfl; walk_at "ev"; walk_at "ev"; walk_at "gi")
  | (apply Ev.neg; walk_at "ev")
  | (apply Ev.bin; walk_at "ev"; walk_at "ev"; first | assumption | rfl)
  | (apply Ev.cmp rfl; walk_at "ev"; walk_at "ev"; first | assumption | rfl))
local macro_rules | `(tactic| walk_at "ts") => `(tactic| first
  | (apply Ts.cmp rfl; walk_at "ev"; walk_at "ev"; first | assumption | rfl))
local macro_rules | `(tactic| walk_at "ex") => `(tactic| first
  | (apply Ex.set rfl; walk_at "ev"; walk_at "st")
  | (apply Ex.ret; walk_at "ev") | exact Ex.brk)
noncomputable def natL (l : List Nat) : List CV := l.map fun (k : Nat) => .int k
noncomputable def whB (s : Stmt) : List Stmt := (stAll s).2.1
noncomputable def whT (s : Stmt) : Expr := (stAll s).1.getD 0 dumX
theorem erase_map {α β : Type} (f : α → β) : ∀ (l : List α) (k : Nat), (l.map f).eraseIdx k = (l.eraseIdx k).map f
  | [], _ => by simp
  | _ :: _, 0 => rfl
  | a :: l, k + 1 => by simp [erase_map f l k]
/-- the loop's body -/
noncomputable def lpS (n : Nat) : Stmt := nth (whB (lawS 13)) n
theorem idx_of {n j : Nat} {i : Int} (hz : n ≤ 1000) (hi : 0 ≤ i ∧ i < n) (hj : i.toNat = j) : idx n i = some j := by
  unfold idx
  rw [if_neg (Nat.not_lt.mpr hz), if_pos hi.1, if_pos hi.2, hj]
theorem lp_who {H : CH} {L : CL} {aF ds n w who : Nat} {fr : List Nat} {xs : List Int} (hF : H[aF]? = some (.list (natL fr))) (h9 : 9 ≤ aF) (hd : H[ds]? = some (.list (intL xs))) (hx : xs.length = 6) (g1 : L.lookup ("free" : Str) = some (.loc aF)) (g2 : L.lookup ("draws" : Str) = some (.loc ds)) (g3 : L.lookup ("asks" : Str) = some (.int n))
    (hf : 0 < fr.length ∧ fr.length ≤ 3) (hw : ((xs.getD (n % 6) 0).fmod (fr.length : Int)).toNat = w) (hwho : fr[w]? = some who) : Ex lawE (lpS 0) L H .next (L.set "who" (.int who)) (H.set aF (.list (natL (fr.eraseIdx w)))) := by
  have nl : (natL fr).length = fr.length := by simp [natL]
  have h6 : n % 6 < 6 := Nat.mod_lt _ (by decide)
  have e1 : ((n : Int).fmod 6) = ((n % 6 : Nat) : Int) := by rw [Int.fmod_eq_emod_of_nonneg _ (by decide)]; rfl
  have e2 : (intL xs)[((n % 6 : Nat) : Int).toNat]? = some (.int (xs.getD (n % 6) 0)) := by
    have : n % 6 < xs.length := by (first | lia | omega)
    rw [Int.toNat_natCast]
    simp [intL, this]
  have b1 := Int.fmod_nonneg_of_pos (xs.getD (n % 6) 0) (by (first | lia | omega) : (0 : Int) < (fr.length : Int))
  have b2 := Int.fmod_lt_of_pos (xs.getD (n % 6) 0) (by (first | lia | omega) : (0 : Int) < (fr.length : Int))
  rw [show natL (fr.eraseIdx w) = (natL fr).eraseIdx w from (erase_map _ _ _).symm]
  refine Ex.set rfl (Ev.pop (xs := natL fr) (H1 := H) (H2 := H) (i := (xs.getD (n % 6) 0).fmod (fr.length : Int)) rfl rfl rfl (Ev.name (nm_local rfl g1)) ?_ hF hF (by (first | lia | omega)) (idx_of (by (first | lia | omega)) ⟨b1, by rw [nl]; exact b2⟩ hw) (by simp [natL, hwho])) (set_local rfl)
  refine Ev.bin (a := .int (xs.getD (n % 6) 0)) (b := .int (fr.length : Int)) (H1 := H) (H2 := H) ?_ ?_ ?_
  · exact Ev.sub rfl (Ev.name (nm_local rfl g2)) (Ev.bin (b := .int 6) (v := .int ((n % 6 : Nat) : Int)) (Ev.name (nm_local rfl g3)) Ev.int (by rw [← e1]; rfl)) (gi_list hd ⟨by (first | lia | omega), by simp [intL, hx]⟩ e2)
  · have := BiS.lenL hF (by (first | lia | omega))
    rw [nl] at this
    exact Ev.bi rfl rfl rfl rfl (Es.cons rfl (Ev.name (nm_local rfl g1)) Es.nil) this
  · simp only [binop, show (0 : Int) < (fr.length : Int) by (first | lia | omega), if_true]
theorem lp_first {H : CH} {L : CL} {aA who nr d l : Nat} {b : Nat → Nat} {ks : List (Int × Int)} {ts rs : List Nat} {val : Nat → List Int} (hw : who < 3) (hA : H[aA]? = some (.list [.loc (b 0), .loc (b 1), .loc (b 2)])) (hb : H[b who]? = some (.list (rs.map .loc))) (hr : RowsAt H rs val) (hs : small4 ks) (hK : KeysAt H nr ks d l ts)
    (g1 : L.lookup ("ahead" : Str) = some (.loc aA)) (g2 : L.lookup ("who" : Str) = some (.int who)) (g3 : L.lookup ("near" : Str) = some (.loc nr)) :
    ∃ t H', Ex lawE (lpS 1) L H .next (L.set "parted" (.loc t)) H' ∧ Parted H H' t (rs.filter (isMin ks val rs)) (rs.filter fun r => !isMin ks val rs r) := by
  obtain ⟨t, H', h1, h2⟩ := first_run (lv := 2) hs hb hr hK
  refine ⟨t, H', Ex.set rfl (Ev.fn (g := fstF) rfl rfl rfl ?_ h1) (set_local rfl), h2⟩
  exact Es.cons rfl (Ev.sub rfl (Ev.name (nm_local rfl g1)) (Ev.name (nm_local rfl g2)) (gi_list hA ⟨by (first | lia | omega), by simp⟩ (list3 (a := 0) (b := 0) (c := 0) hw))) (Es.cons rfl (Ev.name (nm_local rfl g3)) Es.nil)
theorem lp_setA {H : CH} {L : CL} {aA who t y m : Nat} {b : Nat → Nat} (hw : who < 3) (h9 : 9 ≤ aA) (hA : H[aA]? = some (.list [.loc (b 0), .loc (b 1), .loc (b 2)])) (ht : H[t]? = some (.tup [.loc y, .loc m])) (g1 : L.lookup ("ahead" : Str) = some (.loc aA)) (g2 : L.lookup ("who" : Str) = some (.int who)) (g3 : L.lookup ("parted" : Str) = some (.loc t)) :
    Ex lawE (lpS 2) L H .next L (H.set aA (.list [.loc (if 0 = who then m else b 0), .loc (if 1 = who then m else b 1), .loc (if 2 = who then m else b 2)])) := by
  have key : Ex lawE (lpS 2) L H .next L (H.set aA (.list (([CV.loc (b 0), .loc (b 1), .loc (b 2)] : List CV).set ((who : Nat) : Int).toNat (.loc m)))) :=
    Ex.setItem (H1 := H) (H2 := H) (H3 := H) (v := .loc m) (k := who) rfl (Ev.sub rfl (Ev.name (nm_local rfl g3)) Ev.int (gi_tup ht ⟨by decide, by simp⟩ rfl)) (Ev.name (nm_local rfl g1)) (Ev.name (nm_local rfl g2)) hA ⟨by (first | lia | omega), by (first | lia | omega), by (first | lia | omega), by simp; (first | lia | omega)⟩
  have e : ([CV.loc (b 0), .loc (b 1), .loc (b 2)] : List CV).set ((who : Nat) : Int).toNat (.loc m) = [.loc (if 0 = who then m else b 0), .loc (if 1 = who then m else b 1), .loc (if 2 = who then m else b 2)] := by
    rcases who with _ | _ | _ | who <;> first | rfl | (first | lia | omega)
  rw [e] at key
  exact key
theorem lp_where {H : CH} {L : CL} {t y m r j : Nat} {rest : List Nat} {v : List Int} (ht : H[t]? = some (.tup [.loc y, .loc m])) (hy : H[y]? = some (.list ((r :: rest).map .loc))) (hz : rest.length ≤ 900) (hr : H[r]? = some (.tup (intL v))) (hv : v.length = 4) (hj : v.getD 3 0 = j) (g : L.lookup ("parted" : Str) = some (.loc t)) :
    Ex lawE (lpS 3) L H .next (L.set "where" (.int j)) H := by
  have e : (intL v)[(3 : Int).toNat]? = some (.int j) := by
    have : 3 < v.length := by (first | lia | omega)
    rw [← hj]
    simp [intL, this]
  exact Ex.set rfl (Ev.sub rfl (Ev.sub rfl (Ev.sub rfl (Ev.name (nm_local rfl g)) Ev.int (gi_tup ht ⟨by decide, by simp⟩ rfl)) Ev.int (gi_list hy ⟨by decide, by simp; (first | lia | omega)⟩ rfl)) Ev.int (gi_tup hr ⟨by decide, by simp [intL]; (first | lia | omega)⟩ e)) (set_local rfl)
theorem lp_first2 {H : CH} {L : CL} {aH j dr d l t y m : Nat} {h : Nat → Nat} {ks : List (Int × Int)} {ts hs' ys : List Nat} {val : Nat → List Int} (hj : j < 3) (hH : H[aH]? = some (.list [.loc (h 0), .loc (h 1), .loc (h 2)])) (hh : H[h j]? = some (.list (hs'.map .loc))) (ht : H[t]? = some (.tup [.loc y, .loc m])) (hy : H[y]? = some (.list (ys.map .loc)))
    (hr : RowsAt H (hs' ++ ys) val) (hs : small4 ks) (hK : KeysAt H dr ks d l ts)
    (g1 : L.lookup ("held" : Str) = some (.loc aH)) (g2 : L.lookup ("where" : Str) = some (.int j)) (g3 : L.lookup ("dear" : Str) = some (.loc dr)) (g4 : L.lookup ("parted" : Str) = some (.loc t)) :
    ∃ t' H', Ex lawE (lpS 4) L H .next (L.set "parted" (.loc t')) H' ∧ Parted H H' t' ((hs' ++ ys).filter (isMin ks val (hs' ++ ys))) ((hs' ++ ys).filter fun r => !isMin ks val (hs' ++ ys) r) := by
  have p := List.prefix_append H [CO.list ((hs' ++ ys).map .loc)]
  have few := hr.few
  obtain ⟨t', H', h1, h2⟩ := first_run (lv := 2) (R := H.length) hs (hp_new0 rfl) (hr.pre p) (hK.pre p)
  refine ⟨t', H', Ex.set rfl (Ev.fn (g := fstF) rfl rfl rfl ?_ h1) (set_local rfl), ⟨p.trans h2.pre, ?_⟩⟩
  · refine Es.cons (H1 := H ++ [CO.list ((hs' ++ ys).map .loc)]) rfl ?_ (Es.cons rfl (Ev.name (nm_local rfl g3)) Es.nil)
    refine Ev.bin (a := .loc (h j)) (b := .loc y) (H1 := H) (H2 := H) ?_ ?_ ?_
    · exact Ev.sub rfl (Ev.name (nm_local rfl g1)) (Ev.name (nm_local rfl g2)) (gi_list hH ⟨by (first | lia | omega), by simp⟩ (list3 (a := 0) (b := 0) (c := 0) hj))
    · exact Ev.sub rfl (Ev.name (nm_local rfl g4)) Ev.int (gi_tup ht ⟨by decide, by simp⟩ rfl)
    · rw [bin_list hh hy (by simp at few ⊢; (first | lia | omega)), List.map_append]
  · obtain ⟨y', m', a1, a2, a3, a4, a5, a6⟩ := h2.ex
    have := p.length_le
    exact ⟨y', m', a1, a2, a3, by (first | lia | omega), by (first | lia | omega), by (first | lia | omega)⟩
theorem lp_setH {H : CH} {L : CL} {aA j t y m : Nat} {b : Nat → Nat} (hw : j < 3) (h9 : 9 ≤ aA) (hA : H[aA]? = some (.list [.loc (b 0), .loc (b 1), .loc (b 2)])) (ht : H[t]? = some (.tup [.loc y, .loc m])) (g1 : L.lookup ("held" : Str) = some (.loc aA)) (g2 : L.lookup ("where" : Str) = some (.int j)) (g3 : L.lookup ("parted" : Str) = some (.loc t)) :
    Ex lawE (lpS 5) L H .next L (H.set aA (.list [.loc (if 0 = j then y else b 0), .loc (if 1 = j then y else b 1), .loc (if 2 = j then y else b 2)])) := by
  have key : Ex lawE (lpS 5) L H .next L (H.set aA (.list (([CV.loc (b 0), .loc (b 1), .loc (b 2)] : List CV).set ((j : Nat) : Int).toNat (.loc y)))) :=
    Ex.setItem (H1 := H) (H2 := H) (H3 := H) (v := .loc y) (k := j) rfl (Ev.sub rfl (Ev.name (nm_local rfl g3)) Ev.int (gi_tup ht ⟨by decide, by simp⟩ rfl)) (Ev.name (nm_local rfl g1)) (Ev.name (nm_local rfl g2)) hA ⟨by (first | lia | omega), by (first | lia | omega), by (first | lia | omega), by simp; (first | lia | omega)⟩
  have e : ([CV.loc (b 0), .loc (b 1), .loc (b 2)] : List CV).set ((j : Nat) : Int).toNat (.loc y) = [.loc (if 0 = j then y else b 0), .loc (if 1 = j then y else b 1), .loc (if 2 = j then y else b 2)] := by
    rcases j with _ | _ | _ | j <;> first | rfl | (first | lia | omega)
  rw [e] at key
  exact key
noncomputable def exC (s : Stmt) : Expr := (stAll s).1.getD 0 dumX
noncomputable def thX : Expr := argE 0 (exC (lpS 6))
theorem third_go {m acc : Nat} {all : List Nat} {th : Nat → Nat} {val : Nat → List Int} : ∀ (rest done got : List Nat) (L : CL) (H : CH), all = done ++ rest → H[m]? = some (.list (all.map .loc)) → (∀ r ∈ all, H[r]? = some (.tup (intL (val r))) ∧ (val r).length = 4 ∧ (val r).getD 2 0 = th r) →
      H[acc]? = some (.list (natL got)) → got.length + rest.length ≤ 900 → m < acc → (∀ r ∈ all, r < acc) →
      Cm (inE thX lawE []) thX (.list m done.length) acc L H (H.set acc (.list (natL (got ++ rest.map th))))
  | [], done, got, L, H, e, hr, ht, ha, hz, g1, g3 => by
    have : (all.map CV.loc)[done.length]? = none := by rw [e]; simp
    have hs : H.set acc (.list (natL (got ++ ([] : List Nat).map th))) = H := by
      obtain ⟨hl, e⟩ := List.getElem?_eq_some_iff.mp ha
      simp only [List.map_nil, List.append_nil]
      rw [← e, List.set_getElem_self]
    rw [hs]
    exact Cm.done rfl (turn_list_end hr this)
  | r :: rest, done, got, L, H, e, hr, ht, ha, hz, g1, g3 => by
    have hi : (all.map CV.loc)[done.length]? = some (.loc r) := by rw [e]; simp
    have hm : r ∈ all := by rw [e]; simp
    obtain ⟨t1, t2, t3⟩ := ht r hm
    have h2 : (intL (val r))[(2 : Int).toNat]? = some (.int (th r)) := by
      have : 2 < (val r).length := by (first | lia | omega)
      rw [← t3]
      simp [intL, this]
    have key := third_go (th := th) rest (done ++ [r]) (got ++ [th r]) (L.set "row" (.loc r)) (H.set acc (.list (natL (got ++ [th r])))) (by rw [e]; simp) (hp_set (by (first | lia | omega)) hr) (fun r m => ⟨hp_set (by have := g3 r m; (first | lia | omega)) (ht r m).1, (ht r m).2⟩)
      (hp_self ha) (by simp at hz ⊢; (first | lia | omega)) g1 g3
    rw [List.set_set, List.append_assoc, show (done ++ [r]).length = done.length + 1 by simp] at key
    refine Cm.add (xs := natL got) (turn_list hr hi) (bt1 (set_local rfl)) ⟨rfl, rfl⟩ (Ev.sub rfl (Ev.name (nm_local rfl lk_eq)) Ev.int (gi_tup t1 ⟨by decide, by simp [intL]; (first | lia | omega)⟩ h2)) ha ⟨by (first | lia | omega), by simp [natL] at hz ⊢; (first | lia | omega)⟩ ?_
    have e3 : natL got ++ [.int (th r)] = natL (got ++ [th r]) := by simp [natL]
    rw [e3]
    exact key
theorem lp_ext {H : CH} {L : CL} {aF t y m : Nat} {fr ns : List Nat} {th : Nat → Nat} {val : Nat → List Int} (hF : H[aF]? = some (.list (natL fr))) (h9 : 9 ≤ aF) (ht : H[t]? = some (.tup [.loc y, .loc m])) (hm : H[m]? = some (.list (ns.map .loc))) (hr : ∀ r ∈ ns, H[r]? = some (.tup (intL (val r))) ∧ (val r).length = 4 ∧ (val r).getD 2 0 = th r) (hz : ns.length ≤ 800 ∧ fr.length ≤ 800)
    (g1 : L.lookup ("free" : Str) = some (.loc aF)) (g2 : L.lookup ("parted" : Str) = some (.loc t)) : Ex lawE (lpS 6) L H .next L ((H ++ [CO.list (natL (ns.map th))]).set aF (.list (natL (fr ++ ns.map th)))) := by
  have lm := lt_of hm
  have key := third_go (th := th) (val := val) (m := m) (acc := H.length) ns [] [] [] (H ++ [.list []]) (by simp) (hp_app hm) (fun r q => ⟨hp_app (hr r q).1, (hr r q).2⟩) (hp_new0 rfl) (by simp; (first | lia | omega)) lm (fun r q => lt_of (hr r q).1)
  rw [List.nil_append, List.set_append_right _ _ (Nat.le_refl _), Nat.sub_self] at key
  have src : Sc lawE L (genI thX) H (.list m 0) H := by
    apply Sc.of
    · rfl
    · exact Ev.sub rfl (Ev.name (nm_local rfl g2)) Ev.int (gi_tup ht ⟨by decide, by simp⟩ rfl)
    · exact it_list hm
  have ev : Ev lawE L thX H (.loc H.length) (H ++ [CO.list (natL (ns.map th))]) := Ev.listComp rfl src rfl key
  have lF := lt_of hF
  rw [show natL (fr ++ ns.map th) = natL fr ++ natL (ns.map th) by simp [natL]]
  exact Ex.exprNone (Ev.extend (m := H.length) (H1 := H) rfl rfl rfl (Ev.name (nm_local rfl g1)) ev hF (hp_app hF) (hp_new0 rfl) (by (first | lia | omega)) ⟨by simp [natL]; (first | lia | omega), by simp [natL]; (first | lia | omega)⟩)
noncomputable def onesL (l : List Nat) : List (Int × Int) := l.map fun (k : Nat) => ((k : Int), (1 : Int))
theorem lp_ask {H : CH} {L : CL} {aK j who ep : Nat} {k : Nat → Nat} {as : List Nat} (hj : j < 3) (hw : who < 3) (h9 : 9 ≤ aK) (hK : H[aK]? = some (.list [.loc (k 0), .loc (k 1), .loc (k 2)])) (hk : H[k j]? = some (.dict (onesL as) ep)) (hn : as.Nodup) (h3 : ∀ i ∈ as, i < 3) (hnew : who ∉ as) (hz : as.length ≤ 3)
    (g1 : L.lookup ("asked" : Str) = some (.loc aK)) (g2 : L.lookup ("where" : Str) = some (.int j)) (g3 : L.lookup ("who" : Str) = some (.int who)) :
    Ex lawE (lpS 7) L H .next L ((H ++ [CO.dict [((who : Int), 1)] 1] ++ [CO.dict (onesL (as ++ [who])) (as.length + 1)]).set aK (.list [.loc (if 0 = j then H.length + 1 else k 0), .loc (if 1 = j then H.length + 1 else k 1), .loc (if 2 = j then H.length + 1 else k 2)])) := by
  have l1 : (H ++ [CO.dict [((who : Int), 1)] 1]).length = H.length + 1 := by simp
  have lk : (onesL as).lookup (who : Int) = none := by
    rw [List.lookup_eq_none_iff]
    intro p hp
    obtain ⟨i, hi, rfl⟩ := List.mem_map.mp hp
    have : i ≠ who := fun z => hnew (z ▸ hi)
    simp; (first | lia | omega)
  have nd : ((onesL as).map (·.1)).Nodup := by
    unfold onesL
    rw [List.map_map]
    clear hnew lk hk h3 hz
    induction as with
    | nil => simp
    | cons a as ih =>
      rw [List.nodup_cons] at hn
      rw [List.map_cons, List.nodup_cons]
      refine ⟨fun m => ?_, ih hn.2⟩
      obtain ⟨i, hi, e⟩ := List.mem_map.mp m
      have e : i = a := by simpa [Int.ofNat_inj] using e
      exact hn.1 (e ▸ hi)
  have run := add_run (lv := 5) (H := H ++ [CO.dict [((who : Int), 1)] 1]) (a := k j) (b := H.length) (k := who) (v := 1) (hp_app hk) (hp_new0 rfl) (by simp [onesL]; (first | lia | omega)) nd (fun p hp => by
    obtain ⟨i, hi, rfl⟩ := List.mem_map.mp hp
    have := h3 i hi
    dsimp only; (first | lia | omega)) ⟨by (first | lia | omega), by (first | lia | omega)⟩ lk
  have el : (onesL as).length = as.length := by simp [onesL]
  have ea : onesL as ++ [((who : Int), 1)] = onesL (as ++ [who]) := by simp [onesL]
  rw [l1, el, ea] at run
  have sub : ∀ {p q r : Pos} {H' : CH}, H'[aK]? = some (.list [.loc (k 0), .loc (k 1), .loc (k 2)]) → Ev lawE L (.Subscript (.Name "asked" p) (.Name "where" q) r) H' (.loc (k j)) H' := fun {p q r H'} h =>
    Ev.sub rfl (Ev.name (nm_local rfl g1)) (Ev.name (nm_local rfl g2)) (gi_list h ⟨by (first | lia | omega), by simp⟩ (list3 (a := 0) (b := 0) (c := 0) hj))
  have val : Ev lawE L (asgE (lpS 7)) H (.loc (H.length + 1)) (H ++ [CO.dict [((who : Int), 1)] 1] ++ [CO.dict (onesL (as ++ [who])) (as.length + 1)]) := by
    refine Ev.fn (g := addF) rfl rfl rfl ?_ run
    refine Es.cons rfl (sub hK) (Es.cons rfl ?_ Es.nil)
    exact Ev.dict1 (Es.cons rfl (Ev.name (nm_local rfl g3)) (Es.cons rfl Ev.int Es.nil)) ⟨by (first | lia | omega), by (first | lia | omega)⟩
  have key : Ex lawE (lpS 7) L H .next L ((H ++ [CO.dict [((who : Int), 1)] 1] ++ [CO.dict (onesL (as ++ [who])) (as.length + 1)]).set aK (.list (([CV.loc (k 0), .loc (k 1), .loc (k 2)] : List CV).set ((j : Nat) : Int).toNat (.loc (H.length + 1))))) :=
    Ex.setItem (k := j) rfl val (Ev.name (nm_local rfl g1)) (Ev.name (nm_local rfl g2)) (hp_app (hp_app hK)) ⟨by (first | lia | omega), by (first | lia | omega), by (first | lia | omega), by simp; (first | lia | omega)⟩
  have e : ([CV.loc (k 0), .loc (k 1), .loc (k 2)] : List CV).set ((j : Nat) : Int).toNat (.loc (H.length + 1)) = [.loc (if 0 = j then H.length + 1 else k 0), .loc (if 1 = j then H.length + 1 else k 1), .loc (if 2 = j then H.length + 1 else k 2)] := by
    rcases j with _ | _ | _ | j <;> first | rfl | (first | lia | omega)
  rw [e] at key
  exact key
theorem lp_asks {H : CH} {L : CL} {n : Nat} (g : L.lookup ("asks" : Str) = some (.int n)) : Ex lawE (lpS 8) L H .next (L.set "asks" (.int ((n + 1 : Nat) : Int))) H :=
  Ex.aug (nm_local rfl g) Ev.int (by rw [set_local rfl]; rfl)
end Mine
end

section
set_option maxRecDepth 100000
set_option linter.unusedVariables false
set_option autoImplicit false
namespace Mine
open PySem
local macro_rules | `(tactic| walk_at "lk") => `(tactic| first | assumption | exact lk_eq | (apply lk_ne (by decide); walk_at "lk") | rfl)
local macro_rules | `(tactic| walk_at "hp") => `(tactic| first | assumption | (apply hp_app; walk_at "hp") | (apply hp_new0; rfl) | (apply hp_new; rfl) | (apply hp_set (by first | decide | (first | lia | omega)); walk_at "hp") | (apply hp_self; walk_at "hp"))
local macro_rules | `(tactic| walk_at "nm") => `(tactic| first | (apply nm_local rfl; walk_at "lk") | (apply nm_cell rfl rfl; walk_at "hp") | (apply nm_free rfl rfl; walk_at "hp") | exact nm_num rfl rfl)
local macro_rules | `(tactic| walk_at "st") => `(tactic| first | exact set_local rfl | (apply set_cell rfl rfl (h0 := by decide); walk_at "hp"))
local macro_rules | `(tactic| walk_at "bt") => `(tactic| first | (apply bt1; walk_at "st") | (apply bt2; walk_at "st"; walk_at "st") | (apply bt3; walk_at "hp"; walk_at "st"; walk_at "st"))
local macro_rules | `(tactic| walk_at "gi") => `(tactic| first | assumption | (apply gi_list; walk_at "hp"; (first | assumption | decide | (simp; done)); (first | assumption | rfl)) | (apply gi_tup; walk_at "hp"; (first | assumption | decide | (simp; done)); (first | assumption | rfl)))
local macro_rules | `(tactic| walk_at "ev") => `(tactic| first
  | exact Ev.int | exact Ev.str | exact Ev.bool | exact Ev.dict0
  | (apply Ev.name; walk_at "nm")
  | (apply Ev.sub rfl; walk_at "ev"; walk_at "ev"; walk_at "gi")
  | (apply Ev.neg; walk_at "ev")
  | (apply Ev.bin; walk_at "ev"; walk_at "ev"; first | assumption | rfl)
  | (apply Ev.cmp rfl; walk_at "ev"; walk_at "ev"; first | assumption | rfl))
local macro_rules | `(tactic| walk_at "ts") => `(tactic| first
  | (apply Ts.cmp rfl; walk_at "ev"; walk_at "ev"; first | assumption | rfl))
local macro_rules | `(tactic| walk_at "ex") => `(tactic| first
  | (apply Ex.set rfl; walk_at "ev"; walk_at "st")
  | (apply Ex.ret; walk_at "ev") | exact Ex.brk)

structure Prm where
  (aA aH aK aF ds nr nd nl dr dd dl n0 : Nat)
  (nts dts : List Nat)
  (xs : List Int)
  (d : Nat → Nat → Int)
  (x : Nat → Int)
noncomputable def Prm.K (P : Prm) : List Nat := [P.aA, P.aH, P.aK, P.aF]
theorem Prm.out {P : Prm} {n : Nat} : n ∉ P.K ↔ n ≠ P.aA ∧ n ≠ P.aH ∧ n ≠ P.aK ∧ n ≠ P.aF := by simp [Prm.K]
structure Sta (P : Prm) : Prop where
  ne : P.aA ≠ P.aH ∧ P.aA ≠ P.aK ∧ P.aA ≠ P.aF ∧ P.aH ≠ P.aK ∧ P.aH ≠ P.aF ∧ P.aK ≠ P.aF
  nine : 9 ≤ P.aA ∧ 9 ≤ P.aH ∧ 9 ≤ P.aK ∧ 9 ≤ P.aF
  ds : P.ds ∉ P.K
  near : P.nr ∉ P.K ∧ P.nd ∉ P.K ∧ P.nl ∉ P.K ∧ ∀ t ∈ P.nts, t ∉ P.K
  dear : P.dr ∉ P.K ∧ P.dd ∉ P.K ∧ P.dl ∉ P.K ∧ ∀ t ∈ P.dts, t ∉ P.K
  rows : ∀ i j, i < 3 → j < 3 → Rr P.n0 i j ∉ P.K
  xs6 : P.xs.length = 6
theorem KeysAt.up {K : List Nat} {H H' : CH} {n d l : Nat} {ks : List (Int × Int)} {ts : List Nat} (u : Up K H H') (hk : n ∉ K ∧ d ∉ K ∧ l ∉ K ∧ ∀ t ∈ ts, t ∉ K) (h : KeysAt H n ks d l ts) : KeysAt H' n ks d l ts :=
  ⟨u.keep _ _ hk.1 h.inst, u.keep _ _ hk.2.1 h.dict, u.keep _ _ hk.2.2.1 h.list, h.len, h.few, fun i t e => let ⟨a, b, p, v⟩ := h.tups i t e; ⟨a, b, p, u.keep _ _ (hk.2.2.2 t (List.mem_of_getElem? e)) v⟩⟩
structure FxH (P : Prm) (H : CH) : Prop where
  draws : H[P.ds]? = some (.list (intL P.xs))
  near : KeysAt H P.nr nearK P.nd P.nl P.nts
  dear : KeysAt H P.dr dearK P.dd P.dl P.dts
  rows : ∀ i j, i < 3 → j < 3 → H[Rr P.n0 i j]? = some (.tup (intL (rowV P.d P.x i j)))
theorem FxH.up {P : Prm} {H H' : CH} (S : Sta P) (u : Up P.K H H') (h : FxH P H) : FxH P H' :=
  ⟨u.keep _ _ S.ds h.draws, h.near.up u S.near, h.dear.up u S.dear, fun i j a b => u.keep _ _ (S.rows i j a b) (h.rows i j a b)⟩
noncomputable def AtA (P : Prm) (A : Nat → Nat → Bool) (b : Nat → Nat) (H : CH) : Prop := H[P.aA]? = some (.list [.loc (b 0), .loc (b 1), .loc (b 2)]) ∧ ∀ i, i < 3 → b i ∉ P.K ∧ H[b i]? = some (.list (((left3 A i).map (Rr P.n0 i)).map .loc))
noncomputable def heldR (P : Prm) (hd : Nat → Option Nat) (j : Nat) : List Nat := (heldI hd j).map fun i => Rr P.n0 i j
noncomputable def AtH (P : Prm) (hd : Nat → Option Nat) (h : Nat → Nat) (H : CH) : Prop := H[P.aH]? = some (.list [.loc (h 0), .loc (h 1), .loc (h 2)]) ∧ ∀ j, j < 3 → h j ∉ P.K ∧ H[h j]? = some (.list ((heldR P hd j).map .loc)) ∧ 9 ≤ h j
noncomputable def AtK (P : Prm) (ak : Nat → List Nat) (k : Nat → Nat) (H : CH) : Prop := H[P.aK]? = some (.list [.loc (k 0), .loc (k 1), .loc (k 2)]) ∧ ∀ j, j < 3 → k j ∉ P.K ∧ (∃ ep, H[k j]? = some (.dict (onesL (ak j)) ep)) ∧ 9 ≤ k j
noncomputable def AtF (P : Prm) (fr : List Nat) (H : CH) : Prop := H[P.aF]? = some (.list (natL fr))
/-- what the loop's heap holds -/
structure LpH (P : Prm) (s : St) (H : CH) : Prop where
  fx : FxH P H
  A : ∃ b, AtA P s.A b H
  Hh : ∃ h, AtH P s.hd h H
  Kk : ∃ k, AtK P s.ak k H
  F : AtF P s.fr H
structure LpN (P : Prm) (n : Nat) (L : CL) : Prop where
  ahead : L.lookup ("ahead" : Str) = some (.loc P.aA)
  held : L.lookup ("held" : Str) = some (.loc P.aH)
  asked : L.lookup ("asked" : Str) = some (.loc P.aK)
  free : L.lookup ("free" : Str) = some (.loc P.aF)
  draws : L.lookup ("draws" : Str) = some (.loc P.ds)
  near : L.lookup ("near" : Str) = some (.loc P.nr)
  dear : L.lookup ("dear" : Str) = some (.loc P.dr)
  asks : L.lookup ("asks" : Str) = some (.int n)
theorem valR_len {d : Nat → Nat → Int} {x : Nat → Int} {n0 r : Nat} : (valR d x n0 r).length = 4 := rfl
theorem FxH.rowsAt {P : Prm} {H : CH} (X : FxH P H) {rs : List Nat} (hz : rs.length ≤ 900) (h : ∀ r ∈ rs, ∃ i j, i < 3 ∧ j < 3 ∧ r = Rr P.n0 i j) : RowsAt H rs (valR P.d P.x P.n0) :=
  ⟨hz, fun r m => by obtain ⟨i, j, hi, hj, rfl⟩ := h r m; exact ⟨by rw [valR_Rr hj]; exact X.rows i j hi hj, valR_len⟩⟩
theorem left3_len {A : Nat → Nat → Bool} {i : Nat} : (left3 A i).length ≤ 3 := List.length_filter_le _ [0, 1, 2]
theorem small_near : small4 nearK := by unfold small4 nearK; simp
theorem small_dear : small4 dearK := by unfold small4 dearK; simp
/-- one turn of the loop -/
theorem lp_turn {P : Prm} {s : St} {L : CL} {H : CH} (S : Sta P) (I : Inv (callC P.x) P.d s) (B : LpH P s H) (N : LpN P s.n L) (hf : s.fr ≠ []) :
    ∃ s' L' H', Exs lawE (whB (lawS 13)) L H .next L' H' ∧ Inv (callC P.x) P.d s' ∧ s'.n = s.n + 1 ∧ LpH P s' H' ∧ LpN P s'.n L' ∧ Up P.K H H' := by
  obtain ⟨X, ⟨b, A1, A2⟩, ⟨h, H1', H2'⟩, ⟨k, K1, K2⟩, F⟩ := B
  obtain ⟨g1, g2, g3, g4, g5, g6, g7, g8⟩ := N
  obtain ⟨n1, n2, n3, n4, n5, n6⟩ := S.ne
  obtain ⟨q1, q2, q3, q4⟩ := S.nine
  have F : H[P.aF]? = some (.list (natL s.fr)) := F
  have lA := lt_of A1
  have lH := lt_of H1'
  have lK := lt_of K1
  have lF := lt_of F
  have len := nodup_le3 I.nd I.f3
  have pos : 0 < s.fr.length := List.length_pos_iff.mpr hf
  obtain ⟨w, hw⟩ : ∃ w, ((P.xs.getD (s.n % 6) 0).fmod (s.fr.length : Int)).toNat = w := ⟨_, rfl⟩
  have b1 := Int.fmod_nonneg_of_pos (P.xs.getD (s.n % 6) 0) (by (first | lia | omega) : (0 : Int) < (s.fr.length : Int))
  have b2 := Int.fmod_lt_of_pos (P.xs.getD (s.n % 6) 0) (by (first | lia | omega) : (0 : Int) < (s.fr.length : Int))
  have hwl : w < s.fr.length := by (first | lia | omega)
  obtain ⟨who, hwho⟩ : ∃ who, s.fr[w]? = some who := ⟨_, List.getElem?_eq_getElem hwl⟩
  have hmem : who ∈ s.fr := List.mem_of_getElem? hwho
  have w3 := I.f3 who hmem
  have e0 := lp_who F q4 X.draws S.xs6 g4 g5 g8 ⟨pos, len⟩ hw hwho
  obtain ⟨j, hj, hA, hmin⟩ := least (d := P.d) (I.some_left hmem)
  have hfree := (I.free who w3).mp hmem
  -- the name is out of the list
  have u1 : Up P.K H (H.set P.aF (.list (natL (s.fr.eraseIdx w)))) := Up.set _ (by simp [Prm.K])
  have X1 := X.up S u1
  have A11 : (H.set P.aF (CO.list (natL (s.fr.eraseIdx w))))[P.aA]? = _ := hp_set (Ne.symm n3) A1
  have H11 : (H.set P.aF (CO.list (natL (s.fr.eraseIdx w))))[P.aH]? = _ := hp_set (Ne.symm n5) H1'
  have K11 : (H.set P.aF (CO.list (natL (s.fr.eraseIdx w))))[P.aK]? = _ := hp_set (Ne.symm n6) K1
  have F11 : (H.set P.aF (CO.list (natL (s.fr.eraseIdx w))))[P.aF]? = some (.list (natL (s.fr.eraseIdx w))) := hp_self F
  have l1 : (H.set P.aF (CO.list (natL (s.fr.eraseIdx w)))).length = H.length := by simp
  generalize H.set P.aF (.list (natL (s.fr.eraseIdx w))) = Ha at e0 u1 X1 A11 H11 K11 F11 l1
  have hrs : ∀ r ∈ (left3 s.A who).map (Rr P.n0 who), ∃ i j, i < 3 ∧ j < 3 ∧ r = Rr P.n0 i j := fun r m => by
    obtain ⟨j, m2, rfl⟩ := List.mem_map.mp m
    exact ⟨who, j, w3, (mem_left3.mp m2).1, rfl⟩
  obtain ⟨t, Hb, e1, p1⟩ := lp_first (L := L.set "who" (.int who)) w3 A11 (u1.keep _ _ (A2 who w3).1 (A2 who w3).2) (X1.rowsAt (by have := left3_len (A := s.A) (i := who); simp; (first | lia | omega)) hrs) small_near X1.near (by walk_at "lk") (by walk_at "lk") (by walk_at "lk")
  obtain ⟨np1, np2⟩ := near_part (x := P.x) (n0 := P.n0) hj hA hmin
  rw [np1, np2] at p1
  obtain ⟨pre1, y, m, t1, y1, m1, ly, lm, lt⟩ := p1
  -- and its list is shorter
  have A12 := pre_get' pre1 A11
  have e2 := lp_setA (L := (L.set "who" (.int who)).set "parted" (.loc t)) w3 q1 A12 t1 (by walk_at "lk") (by walk_at "lk") (by walk_at "lk")
  have u2 : Up P.K Hb (Hb.set P.aA (.list [.loc (if 0 = who then m else b 0), .loc (if 1 = who then m else b 1), .loc (if 2 = who then m else b 2)])) := Up.set _ (by simp [Prm.K])
  have A13 : (Hb.set P.aA (CO.list [.loc (if 0 = who then m else b 0), .loc (if 1 = who then m else b 1), .loc (if 2 = who then m else b 2)]))[P.aA]? = some (.list [.loc (if 0 = who then m else b 0), .loc (if 1 = who then m else b 1), .loc (if 2 = who then m else b 2)]) := hp_self A12
  have H13 : (Hb.set P.aA (CO.list [.loc (if 0 = who then m else b 0), .loc (if 1 = who then m else b 1), .loc (if 2 = who then m else b 2)]))[P.aH]? = _ := hp_set n1 (pre_get' pre1 H11)
  have K13 : (Hb.set P.aA (CO.list [.loc (if 0 = who then m else b 0), .loc (if 1 = who then m else b 1), .loc (if 2 = who then m else b 2)]))[P.aK]? = _ := hp_set n2 (pre_get' pre1 K11)
  have F13 : (Hb.set P.aA (CO.list [.loc (if 0 = who then m else b 0), .loc (if 1 = who then m else b 1), .loc (if 2 = who then m else b 2)]))[P.aF]? = _ := hp_set n3 (pre_get' pre1 F11)
  have t2 : (Hb.set P.aA (CO.list [.loc (if 0 = who then m else b 0), .loc (if 1 = who then m else b 1), .loc (if 2 = who then m else b 2)]))[t]? = _ := hp_set (by (first | lia | omega)) t1
  have y2 : (Hb.set P.aA (CO.list [.loc (if 0 = who then m else b 0), .loc (if 1 = who then m else b 1), .loc (if 2 = who then m else b 2)]))[y]? = _ := hp_set (by (first | lia | omega)) y1
  have m2 : (Hb.set P.aA (CO.list [.loc (if 0 = who then m else b 0), .loc (if 1 = who then m else b 1), .loc (if 2 = who then m else b 2)]))[m]? = _ := hp_set (by (first | lia | omega)) m1
  have ub := (u1.trans (Up.of_pre pre1)).trans u2
  have Xc := X.up S ub
  generalize Hb.set P.aA (.list [.loc (if 0 = who then m else b 0), .loc (if 1 = who then m else b 1), .loc (if 2 = who then m else b 2)]) = Hc at e2 u2 A13 H13 K13 F13 t2 y2 m2 ub Xc
  -- whom it asks
  have e3 := lp_where (L := (L.set "who" (.int who)).set "parted" (.loc t)) (rest := []) t2 y2 (by simp) (Xc.rows who j w3 hj) rfl (j := j) rfl (by walk_at "lk")
  have hrs2 : ∀ r ∈ heldR P s.hd j ++ [Rr P.n0 who j], ∃ i j, i < 3 ∧ j < 3 ∧ r = Rr P.n0 i j := fun r m => by
    rcases List.mem_append.mp m with m | m
    · obtain ⟨i, m2, rfl⟩ := List.mem_map.mp m
      unfold heldI at m2
      split at m2
      · cases m2
      · rename_i i' e
        rw [List.mem_singleton.mp m2]
        exact ⟨_, j, (I.hold j _ hj e).1, hj, rfl⟩
    · rw [List.mem_singleton.mp m]; exact ⟨who, j, w3, hj, rfl⟩
  have hl1 : (heldI s.hd j).length ≤ 1 := by unfold heldI; split <;> simp
  have hl2 : (heldR P s.hd j ++ [Rr P.n0 who j]).length ≤ 900 := by simp [heldR]; (first | lia | omega)
  obtain ⟨t', Hd, e4, p2⟩ := lp_first2 (L := ((L.set "who" (.int who)).set "parted" (.loc t)).set "where" (.int j)) (h := h) hj H13 (ub.keep _ _ (H2' j hj).1 (H2' j hj).2.1) t2 y2 (Xc.rowsAt hl2 hrs2) small_dear Xc.dear (by walk_at "lk") (by walk_at "lk") (by walk_at "lk") (by walk_at "lk")
  obtain ⟨dp1, dp2⟩ := dear_part (d := P.d) (x := P.x) (n0 := P.n0) hj (hfree j hj) rfl
  rw [List.map_append] at dp1 dp2
  have p2 : Parted Hc Hd t' [Rr P.n0 (winner (callC P.x) P.d s who j).1 j] ((winner (callC P.x) P.d s who j).2.map fun i => Rr P.n0 i j) := dp1 ▸ dp2 ▸ p2
  have I' := I.turn hwho hj hA hmin
  have hlose : ∀ i ∈ (winner (callC P.x) P.d s who j).2, i < 3 := fun i m => I'.f3 i (List.mem_append_right _ m)
  have hllen : (winner (callC P.x) P.d s who j).2.length ≤ 1 := by unfold winner; split; simp; split <;> simp
  obtain ⟨win, hwin⟩ : ∃ win, (winner (callC P.x) P.d s who j).1 = win := ⟨_, rfl⟩
  obtain ⟨lose, hlo⟩ : ∃ lose, (winner (callC P.x) P.d s who j).2 = lose := ⟨_, rfl⟩
  rw [hwin, hlo] at p2 I'
  rw [hlo] at hlose hllen
  obtain ⟨pre2, y', m', t3, y3, m3, ly', lm', lt'⟩ := p2
  have lc : H.length ≤ Hc.length := ub.len
  have e5 := lp_setH (L := (((L.set "who" (.int who)).set "parted" (.loc t)).set "where" (.int j)).set "parted" (.loc t')) (b := h) hj q2 (pre_get' pre2 H13) t3 (by walk_at "lk") (by walk_at "lk") (by walk_at "lk")
  let He : CH := Hd.set P.aH (.list [.loc (if 0 = j then y' else h 0), .loc (if 1 = j then y' else h 1), .loc (if 2 = j then y' else h 2)])
  have ue : Up [P.aH] Hd He := Up.set _ (by simp)
  have uce : Up [P.aH] Hc He := (Up.of_pre pre2).trans ue
  have ne1 : ∀ n, n ≠ P.aH → n ∉ [P.aH] := fun n h => by simpa using h
  have sub1 : Up P.K Hc He := uce.wide fun n hn => .inl (by simp [Prm.K]; simp at hn; (first | lia | omega))
  have Xe := Xc.up S sub1
  have hH5 : He[P.aH]? = some (.list [.loc (if 0 = j then y' else h 0), .loc (if 1 = j then y' else h 1), .loc (if 2 = j then y' else h 2)]) := hp_self (pre_get' pre2 H13)
  have e6 := lp_ext (L := (((L.set "who" (.int who)).set "parted" (.loc t)).set "where" (.int j)).set "parted" (.loc t')) (H := He) (fr := s.fr.eraseIdx w) (ns := lose.map fun i => Rr P.n0 i j) (th := fun r => (r - P.n0 - 1) / 4) (val := valR P.d P.x P.n0) (t := t') (y := y') (m := m') (uce.keep _ _ (ne1 _ (Ne.symm n5)) F13) q4 (ue.keep _ _ (ne1 _ (by (first | lia | omega))) t3) (ue.keep _ _ (ne1 _ (by (first | lia | omega))) m3)
    (fun r hr => by
      obtain ⟨i, hi, rfl⟩ := List.mem_map.mp hr
      refine ⟨?_, valR_len, rfl⟩
      rw [valR_Rr hj]
      exact Xe.rows i j (hlose i hi) hj)
    ⟨by simp; (first | lia | omega), by have := List.length_eraseIdx_le s.fr w; (first | lia | omega)⟩ (by walk_at "lk") (by walk_at "lk")
  have hth : (lose.map fun i => Rr P.n0 i j).map (fun r => (r - P.n0 - 1) / 4) = lose := by
    rw [List.map_map]
    refine (List.map_congr_left fun i _ => ?_).trans (List.map_id _)
    show (Rr P.n0 i j - P.n0 - 1) / 4 = i
    unfold Rr
    (first | lia | omega)
  rw [hth] at e6
  let Hf : CH := (He ++ [CO.list (natL lose)]).set P.aF (.list (natL (s.fr.eraseIdx w ++ lose)))
  have uf : Up [P.aF] He Hf := (Up.app _).trans (Up.set _ (by simp))
  have hF6 : Hf[P.aF]? = some (.list (natL (s.fr.eraseIdx w ++ lose))) := hp_self (hp_app (uce.keep _ _ (ne1 _ (Ne.symm n5)) F13))
  have ne2 : ∀ n, n ≠ P.aF → n ∉ [P.aF] := fun n h => by simpa using h
  have hw' : who ∉ s.ak j := fun z => by have := ((I.and_ j hj).2 who).mp z; rw [hA] at this; exact absurd this.2 (by simp)
  obtain ⟨ep, hkd⟩ := (K2 j hj).2.1
  have kj := (K2 j hj).1
  have kjo := Prm.out.mp kj
  have kd6 : Hf[k j]? = some (.dict (onesL (s.ak j)) ep) := uf.keep _ _ (ne2 _ kjo.2.2.2) (uce.keep _ _ (ne1 _ kjo.2.1) (ub.keep _ _ kj hkd))
  have hK6 : Hf[P.aK]? = some (.list [.loc (k 0), .loc (k 1), .loc (k 2)]) := uf.keep _ _ (ne2 _ n6) (uce.keep _ _ (ne1 _ (Ne.symm n4)) K13)
  have e7 := lp_ask (L := (((L.set "who" (.int who)).set "parted" (.loc t)).set "where" (.int j)).set "parted" (.loc t')) (k := k) hj w3 q3 hK6 kd6 (I.and_ j hj).1 (fun i hi => (((I.and_ j hj).2 i).mp hi).1) hw' (nodup_le3 (I.and_ j hj).1 fun i hi => (((I.and_ j hj).2 i).mp hi).1) (by walk_at "lk") (by walk_at "lk") (by walk_at "lk")
  let Hg : CH := (Hf ++ [CO.dict [((who : Int), 1)] 1] ++ [CO.dict (onesL (s.ak j ++ [who])) ((s.ak j).length + 1)]).set P.aK (.list [.loc (if 0 = j then Hf.length + 1 else k 0), .loc (if 1 = j then Hf.length + 1 else k 1), .loc (if 2 = j then Hf.length + 1 else k 2)])
  have ug : Up [P.aK] Hf Hg := ((Up.app _).trans (Up.app _)).trans (Up.set _ (by simp))
  have ne3 : ∀ n, n ≠ P.aK → n ∉ [P.aK] := fun n h => by simpa using h
  have e8 := lp_asks (H := Hg) (L := (((L.set "who" (.int who)).set "parted" (.loc t)).set "where" (.int j)).set "parted" (.loc t')) (n := s.n) (by walk_at "lk")
  have lf : Hc.length ≤ Hf.length := Nat.le_trans sub1.len uf.len
  have uEnd : Up P.K Hc Hg := (sub1.trans (uf.wide fun n hn => .inl (by simp [Prm.K]; simp at hn; (first | lia | omega)))).trans (ug.wide fun n hn => .inl (by simp [Prm.K]; simp at hn; (first | lia | omega)))
  have uAll := ub.trans uEnd
  refine ⟨s.turn w who j win lose, _, Hg, Exs.cons e0 (Exs.cons e1 (Exs.cons e2 (Exs.cons e3 (Exs.cons e4 (Exs.cons e5 (Exs.cons e6 (Exs.cons e7 (Exs.cons e8 Exs.nil)))))))), I', rfl, ⟨X.up S uAll, ?_, ?_, ?_, ?_⟩, ?_, uAll⟩
  · refine ⟨fun i => if i = who then m else b i, ?_, fun i hi => ?_⟩
    · exact ug.keep _ _ (ne3 _ n2) (uf.keep _ _ (ne2 _ n3) (uce.keep _ _ (ne1 _ n1) A13))
    · dsimp only
      by_cases e : i = who
      · subst e
        rw [if_pos rfl]
        exact ⟨Prm.out.mpr (by (first | lia | omega)), uEnd.keep _ _ (Prm.out.mpr (by (first | lia | omega))) m2⟩
      · rw [if_neg e]
        refine ⟨(A2 i hi).1, ?_⟩
        show Hg[b i]? = some (.list (((left3 (s.ask who j) i).map (Rr P.n0 i)).map .loc))
        rw [left3_ne e]
        exact uAll.keep _ _ (A2 i hi).1 (A2 i hi).2
  · refine ⟨fun i => if i = j then y' else h i, ?_, fun i hi => ?_⟩
    · exact ug.keep _ _ (ne3 _ n4) (uf.keep _ _ (ne2 _ n5) hH5)
    · dsimp only
      by_cases e : i = j
      · subst e
        rw [if_pos rfl]
        refine ⟨Prm.out.mpr (by (first | lia | omega)), ?_, by (first | lia | omega)⟩
        show Hg[y']? = some (.list ((heldR P (upd s.hd i (some win)) i).map .loc))
        unfold heldR heldI
        rw [upd_self]
        exact ug.keep _ _ (ne3 _ (by (first | lia | omega))) (uf.keep _ _ (ne2 _ (by (first | lia | omega))) (ue.keep _ _ (ne1 _ (by (first | lia | omega))) y3))
      · rw [if_neg e]
        refine ⟨(H2' i hi).1, ?_, (H2' i hi).2.2⟩
        show Hg[h i]? = some (.list ((heldR P (upd s.hd j (some win)) i).map .loc))
        unfold heldR heldI
        rw [upd_ne _ _ e]
        exact uAll.keep _ _ (H2' i hi).1 (H2' i hi).2.1
  · refine ⟨fun i => if i = j then Hf.length + 1 else k i, ?_, fun i hi => ?_⟩
    · exact hp_self (hp_app (hp_app hK6))
    · dsimp only
      by_cases e : i = j
      · subst e
        rw [if_pos rfl]
        refine ⟨Prm.out.mpr (by (first | lia | omega)), ⟨(s.ak i).length + 1, ?_⟩, by (first | lia | omega)⟩
        show Hg[Hf.length + 1]? = some (.dict (onesL (upd s.ak i (s.ak i ++ [who]) i)) _)
        rw [upd_self]
        refine hp_set (by (first | lia | omega)) ?_
        have := hp_new0 (H := Hf ++ [CO.dict [((who : Int), 1)] 1]) (o := CO.dict (onesL (s.ak i ++ [who])) ((s.ak i).length + 1)) (X := [CO.dict (onesL (s.ak i ++ [who])) ((s.ak i).length + 1)]) rfl
        rw [List.length_append] at this
        exact this
      · rw [if_neg e]
        refine ⟨(K2 i hi).1, ?_, (K2 i hi).2.2⟩
        obtain ⟨ep, hq⟩ := (K2 i hi).2.1
        refine ⟨ep, ?_⟩
        show Hg[k i]? = some (.dict (onesL (upd s.ak j (s.ak j ++ [who]) i)) _)
        rw [upd_ne _ _ e]
        exact uAll.keep _ _ (K2 i hi).1 hq
  · exact ug.keep _ _ (ne3 _ (Ne.symm n6)) hF6
  · exact ⟨by walk_at "lk", by walk_at "lk", by walk_at "lk", by walk_at "lk", by walk_at "lk", by walk_at "lk", by walk_at "lk", by walk_at "lk"⟩
end Mine
end

section
set_option maxRecDepth 100000
set_option linter.unusedVariables false
set_option autoImplicit false
namespace Mine
open PySem
local macro_rules | `(tactic| walk_at "lk") => `(tactic| first | assumption | exact lk_eq | (apply lk_ne (by decide); walk_at "lk") | rfl)
local macro_rules | `(tactic| walk_at "hp") => `(tactic| first | assumption | (apply hp_app; walk_at "hp") | (apply hp_new0; rfl) | (apply hp_new; rfl) | (apply hp_set (by first | decide | (first | lia | omega)); walk_at "hp") | (apply hp_self; walk_at "hp"))
local macro_rules | `(tactic| walk_at "nm") => `(tactic| first | (apply nm_local rfl; walk_at "lk") | (apply nm_cell rfl rfl; walk_at "hp") | (apply nm_free rfl rfl; walk_at "hp") | exact nm_num rfl rfl)
local macro_rules | `(tactic| walk_at "st") => `(tactic| first | exact set_local rfl | (apply set_cell rfl rfl (h0 := by decide); walk_at "hp"))
local macro_rules | `(tactic| walk_at "bt") => `(tactic| first | (apply bt1; walk_at "st") | (apply bt2; walk_at "st"; walk_at "st") | (apply bt3; walk_at "hp"; walk_at "st"; walk_at "st"))
local macro_rules | `(tactic| walk_at "gi") => `(tactic| first | assumption | (apply gi_list; walk_at "hp"; (first | assumption | decide | (simp; done)); (first | assumption | rfl)) | (apply gi_tup; walk_at "hp"; (first | assumption | decide | (simp; done)); (first | assumption | rfl)))
local macro_rules | `(tactic| walk_at "ev") => `(tactic| first
  | exact Ev.int | exact Ev.str | exact Ev.bool | exact Ev.dict0
  | (apply Ev.name; walk_at "nm")
  | (apply Ev.sub rfl; walk_at "ev"; walk_at "ev"; walk_at "gi")
  | (apply Ev.neg; walk_at "ev")
  | (apply Ev.bin; walk_at "ev"; walk_at "ev"; first | assumption | rfl)
  | (apply Ev.cmp rfl; walk_at "ev"; walk_at "ev"; first | assumption | rfl))
local macro_rules | `(tactic| walk_at "ts") => `(tactic| first
  | (apply Ts.cmp rfl; walk_at "ev"; walk_at "ev"; first | assumption | rfl))
local macro_rules | `(tactic| walk_at "ex") => `(tactic| first
  | (apply Ex.set rfl; walk_at "ev"; walk_at "st")
  | (apply Ex.ret; walk_at "ev") | exact Ex.brk)

theorem map_go {E : CE} {X e t iter : Expr} {sc : Scope} {p : Pos} {H : CH} {m : Nat} {all : List CV} {f : CV → CV} (hX : X = .ListComp e [⟨t, iter, [], 0⟩] sc p) (hm : H[m]? = some (.list all)) (h0 : H.length ≠ 0) (hz : all.length ≤ 900)
    (he : ∀ v ∈ all, ∀ L xs, ∃ L1, bindTarget E t [v] L (H ++ [.list xs]) = some (L1, H ++ [.list xs]) ∧ Ev E L1 e (H ++ [.list xs]) (f v) (H ++ [.list xs])) :
    ∀ (rest done : List CV) (L : CL), all = done ++ rest → Cm E X (.list m done.length) H.length L (H ++ [.list (done.map f)]) (H ++ [.list (all.map f)])
  | [], done, L, h => by
    subst hX
    have : all[done.length]? = none := by rw [h]; simp
    have e2 : done = all := by rw [h]; simp
    rw [e2]
    exact Cm.done rfl (turn_list_end (hp_app hm) (by rw [e2] at this; exact this))
  | v :: rest, done, L, h => by
    have hi : all[done.length]? = some v := by rw [h]; simp
    have hv : v ∈ all := by rw [h]; simp
    obtain ⟨L1, b, ev⟩ := he v hv L (done.map f)
    have key := map_go hX hm h0 hz he rest (done ++ [v]) L1 (by rw [h]; simp)
    subst hX
    refine Cm.push (X := []) (turn_list (hp_app hm) hi) b ⟨rfl, rfl⟩ ev ⟨h0, by rw [h] at hz; simp at hz ⊢; (first | lia | omega)⟩ ?_
    rw [List.length_append, List.map_append] at key
    exact key
theorem order3_map {α β : Type} (f : α → β) {a b c : List Int} {x y z : α} : (order3 a b c x y z).map f = order3 a b c (f x) (f y) (f z) := by
  unfold order3
  repeat' split
  all_goals rfl
theorem order3_mem {α : Type} {a b c : List Int} {x y z v : α} (h : v ∈ order3 a b c x y z) : v = x ∨ v = y ∨ v = z := by
  unfold order3 at h
  repeat' split at h
  all_goals simp only [List.mem_cons, List.not_mem_nil, or_false] at h
  all_goals (rcases h with rfl | rfl | rfl <;> simp)
theorem order3_len {α : Type} {a b c : List Int} {x y z : α} : (order3 a b c x y z).length = 3 := by
  unfold order3
  repeat' split
  all_goals rfl
theorem row_at {n0 i j : Nat} (hi : i < 3) (hj : j < 3) : ((blocks n0 3).map CV.loc)[3 * i + j]? = some (.loc (Rr n0 i j)) := by
  rcases nat3 hi with rfl | rfl | rfl <;> rcases nat3 hj with rfl | rfl | rfl <;> rfl
theorem ev_mul {E : CE} {L : CL} {H : CH} {a b : Expr} {p q r : Pos} {i j k : Nat} (h1 : Ev E L a H (.int i) H) (h2 : Ev E L b H (.int j) H) : Ev E L (.BinOp (.BinOp (.Constant (.int 3) k p) .Mult a q) .Add b r) H (.int ((3 * i + j : Nat) : Int)) H := by
  refine Ev.bin (a := .int ((3 * i : Nat) : Int)) (b := .int j) (H1 := H) (H2 := H) ?_ h2 ?_
  · refine Ev.bin (a := .int 3) (b := .int i) (H1 := H) (H2 := H) Ev.int h1 ?_
    have : (3 : Int).natAbs < 1000000000 := by decide
    simp only [binop, this, if_true]
    rw [Int.natCast_mul]; rfl
  · rw [Int.natCast_add]; rfl
theorem ev_row {E : CE} {L : CL} {H : CH} {a b : Expr} {x : Str} {p q r s t : Pos} {i j k n0 ar : Nat} (hi : i < 3) (hj : j < 3) (hr : H[ar]? = some (.list ((blocks n0 3).map .loc))) (hn : getName theT E L x H = some (.loc ar)) (h1 : Ev E L a H (.int i) H) (h2 : Ev E L b H (.int j) H) :
    Ev E L (.Subscript (.Name x p) (.BinOp (.BinOp (.Constant (.int 3) k q) .Mult a r) .Add b s) t) H (.loc (Rr n0 i j)) H :=
  Ev.sub rfl (Ev.name hn) (ev_mul h1 h2) (gi_list hr ⟨by (first | lia | omega), by simp [blocks]⟩ (by rw [Int.toNat_natCast]; exact row_at hi hj))
noncomputable def nrO : Expr := asgE (lawS 14)
noncomputable def nrI : Expr := eltE nrO
noncomputable def nrT : Expr := argE 0 (genI nrI)
noncomputable def nrE (k : Nat) : CE := inE nrO lawE [("i", k), ("rows", 3)]
theorem near_elt {H : CH} {L : CL} {k i ar n0 : Nat} {d : Nat → Nat → Int} {x : Nat → Int} (hi : i < 3) (n3 : H[3]? = some (.cell (some (.loc ar)))) (hr : H[ar]? = some (.list ((blocks n0 3).map .loc))) (ht : ∀ j, j < 3 → H[Rr n0 i j]? = some (.tup (intL (rowV d x i j)))) (hk : H[k]? = some (.cell (some (.int i)))) :
    ∃ X n, Ev (nrE k) L nrI H (.loc n) (H ++ X) ∧ H.length ≤ n ∧ (H ++ X)[n]? = some (.list (intL (Pl d i))) := by
  let A : CH := H ++ [.range 0 3 1]
  have lA : A.length = H.length + 1 := by simp [A]
  have pA : H <+: A := List.prefix_append _ _
  have pos := lt_of hr
  have el : ∀ (j : Nat) (L : CL) (xs : List CV) (X : CH), j < 3 → L.lookup ("j" : Str) = some (.int j) → Ev (inE nrT (nrE k) [("rows", 3), ("i", k)]) L (eltE nrT) (A ++ .list xs :: X) (.loc (A.length + 1 + X.length)) (A ++ .list xs :: (X ++ [.tup (intL [d i j, (j : Int)])])) := fun j L xs X hj g => by
    have pB : H <+: A ++ .list xs :: X := pre_app pA _
    rw [app_cons, show A.length + 1 + X.length = (A ++ CO.list xs :: X).length by simp; (first | lia | omega)]
    refine Ev.tup (vs := intL [d i j, (j : Int)]) (Es.cons rfl ?_ (Es.cons rfl (Ev.name (nm_local rfl g)) Es.nil)) (by simp [intL])
    exact Ev.sub rfl (ev_row hi hj (pre_get' pB hr) (nm_cell rfl rfl (pre_get' pB n3)) (Ev.name (nm_cell rfl rfl (pre_get' pB hk))) (Ev.name (nm_local rfl g))) Ev.int (gi_tup (pre_get' pB (ht j hj)) ⟨by decide, by simp [intL, rowV]⟩ rfl)
  have cm : Cm (inE nrT (nrE k) [("rows", 3), ("i", k)]) nrT (.range 0 1 3) A.length [] (A ++ .list [] :: []) (A ++ .list [.loc (A.length + 1), .loc (A.length + 2), .loc (A.length + 3)] :: [.tup (intL [d i 0, 0]), .tup (intL [d i 1, 1]), .tup (intL [d i 2, 2])]) := by
    refine Cm.push (it' := .range 1 1 2) rfl (bt1 (set_local rfl)) ⟨rfl, rfl⟩ (el 0 _ _ _ (by decide) lk_eq) ⟨by (first | lia | omega), by simp⟩ ?_
    refine Cm.push (it' := .range 2 1 1) rfl (bt1 (set_local rfl)) ⟨rfl, rfl⟩ (el 1 _ _ _ (by decide) lk_eq) ⟨by (first | lia | omega), by simp⟩ ?_
    refine Cm.push (it' := .range 3 1 0) rfl (bt1 (set_local rfl)) ⟨rfl, rfl⟩ (el 2 _ _ _ (by decide) lk_eq) ⟨by (first | lia | omega), by simp⟩ ?_
    exact Cm.done rfl rfl
  have evT : Ev (nrE k) L nrT H (.loc A.length) (A ++ .list [.loc (A.length + 1), .loc (A.length + 2), .loc (A.length + 3)] :: [.tup (intL [d i 0, 0]), .tup (intL [d i 1, 1]), .tup (intL [d i 2, 2])]) :=
    Ev.listComp rfl (range_src rfl) rfl cm
  obtain ⟨B, hB⟩ : ∃ B, A ++ .list [.loc (A.length + 1), .loc (A.length + 2), .loc (A.length + 3)] :: [.tup (intL [d i 0, 0]), .tup (intL [d i 1, 1]), .tup (intL [d i 2, 2])] = B := ⟨_, rfl⟩
  have b0 : B[A.length]? = some (.list [.loc (A.length + 1), .loc (A.length + 2), .loc (A.length + 3)]) := by rw [← hB]; exact hp_new0 rfl
  have b1 : B[A.length + 1]? = some (.tup (intL [d i 0, 0])) := by rw [← hB]; exact hp_new rfl
  have b2 : B[A.length + 2]? = some (.tup (intL [d i 1, 1])) := by rw [← hB]; exact hp_new rfl
  have b3 : B[A.length + 3]? = some (.tup (intL [d i 2, 2])) := by rw [← hB]; exact hp_new rfl
  have lB : B.length = A.length + 4 := by rw [← hB]; simp
  have eB : B = H ++ (.range 0 3 1 :: .list [.loc (A.length + 1), .loc (A.length + 2), .loc (A.length + 3)] :: [.tup (intL [d i 0, 0]), .tup (intL [d i 1, 1]), .tup (intL [d i 2, 2])]) := by rw [← hB]; simp [A]
  rw [hB] at evT
  have srt := BiS.sorted b0 b1 b2 b3 ⟨rfl, rfl, by simp, by simp, by simp⟩
  let V : List CV := order3 [d i 0, 0] [d i 1, 1] [d i 2, 2] (.loc (A.length + 1)) (.loc (A.length + 2)) (.loc (A.length + 3))
  let C : CH := B ++ [.list V]
  have gC : C[B.length]? = some (.list V) := hp_new0 rfl
  have lC : C.length = B.length + 1 := by simp [C]
  let f : CV → CV := fun v => if v = .loc (A.length + 1) then .int 0 else if v = .loc (A.length + 2) then .int 1 else .int 2
  have src : Sc (nrE k) L (genI nrI) H (.list B.length 0) C := by
    apply Sc.of
    · rfl
    · exact Ev.bi (vs := [.loc A.length]) rfl rfl rfl rfl (Es.cons rfl evT Es.nil) srt
    · exact it_list gC
  have fV : V.map f = intL (Pl d i) := by
    show (order3 _ _ _ _ _ _).map f = (order3 _ _ _ _ _ _).map CV.int
    rw [order3_map, order3_map]
    have f1 : f (.loc (A.length + 1)) = .int 0 := if_pos rfl
    have f2 : f (.loc (A.length + 2)) = .int 1 := by
      show (if _ then _ else _) = _
      rw [if_neg (by simp), if_pos rfl]
    have f3 : f (.loc (A.length + 3)) = .int 2 := by
      show (if _ then _ else _) = _
      rw [if_neg (by simp), if_neg (by simp)]
    rw [f1, f2, f3]
  have go := map_go (X := nrI) (E := inE nrI (nrE k) []) (H := C) (m := B.length) (all := V) (f := f) rfl gC (by (first | lia | omega)) (by rw [order3_len]; decide) (fun v hv L xs => by
    refine ⟨_, bt1 (set_local rfl), ?_⟩
    have key : ∀ (t : Nat) (a b : Int), v = .loc t → C[t]? = some (.tup (intL [a, b])) → f v = .int b → Ev (inE nrI (nrE k) []) (L.set "pair" v) (eltE nrI) (C ++ [.list xs]) (f v) (C ++ [.list xs]) := fun t a b e1 e2 e3 => by
      rw [e3]
      exact Ev.sub rfl (Ev.name (nm_local rfl (by rw [e1]; exact lk_eq))) Ev.int (gi_tup (hp_app e2) ⟨by decide, by simp [intL]⟩ rfl)
    rcases order3_mem hv with h | h | h
    · exact key _ _ _ h (hp_app b1) (by rw [h]; exact if_pos rfl)
    · exact key _ _ _ h (hp_app b2) (by rw [h]; show (if _ then _ else _) = _; rw [if_neg (by simp), if_pos rfl])
    · exact key _ _ _ h (hp_app b3) (by rw [h]; show (if _ then _ else _) = _; rw [if_neg (by simp), if_neg (by simp)])) V [] [] rfl
  rw [fV] at go
  refine ⟨(.range 0 3 1 :: .list [.loc (A.length + 1), .loc (A.length + 2), .loc (A.length + 3)] :: [.tup (intL [d i 0, 0]), .tup (intL [d i 1, 1]), .tup (intL [d i 2, 2])]) ++ [.list V, .list (intL (Pl d i))], C.length, ?_, by (first | lia | omega), ?_⟩
  · rw [← List.append_assoc, ← eB]
    rw [show B ++ [CO.list V, .list (intL (Pl d i))] = C ++ [.list (intL (Pl d i))] by simp [C]]
    exact Ev.listComp rfl src rfl go
  · rw [← List.append_assoc, ← eB, show B ++ [CO.list V, .list (intL (Pl d i))] = C ++ [.list (intL (Pl d i))] by simp [C]]
    exact hp_new0 rfl
end Mine
end

section
set_option maxRecDepth 100000
set_option linter.unusedVariables false
set_option autoImplicit false
namespace Mine
open PySem
local macro_rules | `(tactic| walk_at "lk") => `(tactic| first | assumption | exact lk_eq | (apply lk_ne (by decide); walk_at "lk") | rfl)
local macro_rules | `(tactic| walk_at "hp") => `(tactic| first | assumption | (apply hp_app; walk_at "hp") | (apply hp_new0; rfl) | (apply hp_new; rfl) | (apply hp_set (by first | decide | (first | lia | omega)); walk_at "hp") | (apply hp_self; walk_at "hp"))
local macro_rules | `(tactic| walk_at "nm") => `(tactic| first | (apply nm_local rfl; walk_at "lk") | (apply nm_cell rfl rfl; walk_at "hp") | (apply nm_free rfl rfl; walk_at "hp") | exact nm_num rfl rfl)
local macro_rules | `(tactic| walk_at "st") => `(tactic| first | exact set_local rfl | (apply set_cell rfl rfl (h0 := by decide); walk_at "hp"))
local macro_rules | `(tactic| walk_at "bt") => `(tactic| first | (apply bt1; walk_at "st") | (apply bt2; walk_at "st"; walk_at "st") | (apply bt3; walk_at "hp"; walk_at "st"; walk_at "st"))
local macro_rules | `(tactic| walk_at "gi") => `(tactic| first | assumption | (apply gi_list; walk_at "hp"; (first | assumption | decide | (simp; done)); (first | assumption | rfl)) | (apply gi_tup; walk_at "hp"; (first | assumption | decide | (simp; done)); (first | assumption | rfl)))
local macro_rules | `(tactic| walk_at "ev") => `(tactic| first
  | exact Ev.int | exact Ev.str | exact Ev.bool | exact Ev.dict0
  | (apply Ev.name; walk_at "nm")
  | (apply Ev.sub rfl; walk_at "ev"; walk_at "ev"; walk_at "gi")
  | (apply Ev.neg; walk_at "ev")
  | (apply Ev.bin; walk_at "ev"; walk_at "ev"; first | assumption | rfl)
  | (apply Ev.cmp rfl; walk_at "ev"; walk_at "ev"; first | assumption | rfl))
local macro_rules | `(tactic| walk_at "ts") => `(tactic| first
  | (apply Ts.cmp rfl; walk_at "ev"; walk_at "ev"; first | assumption | rfl))
local macro_rules | `(tactic| walk_at "ex") => `(tactic| first
  | (apply Ex.set rfl; walk_at "ev"; walk_at "st")
  | (apply Ex.ret; walk_at "ev") | exact Ex.brk)

structure TP where
  (ac ar n0 aH aK : Nat)
  (cc h k ep : Nat → Nat)
  (d : Nat → Nat → Int)
  (x : Nat → Int)
  (w : Nat → Nat)
  (ak : Nat → List Nat)
/-- what the law's last part reads -/
structure TB (T : TP) (H : CH) : Prop where
  rows : H[T.ar]? = some (.list ((blocks T.n0 3).map .loc))
  row : ∀ i j, i < 3 → j < 3 → H[Rr T.n0 i j]? = some (.tup (intL (rowV T.d T.x i j)))
  calls : H[T.ac]? = some (.list [.loc (T.cc 0), .loc (T.cc 1), .loc (T.cc 2)])
  call : ∀ i, i < 3 → H[T.cc i]? = some (.list (intL (callL (T.x i))))
  held : H[T.aH]? = some (.list [.loc (T.h 0), .loc (T.h 1), .loc (T.h 2)])
  heldj : ∀ j, j < 3 → H[T.h j]? = some (.list [.loc (Rr T.n0 (T.w j) j)])
  asked : H[T.aK]? = some (.list [.loc (T.k 0), .loc (T.k 1), .loc (T.k 2)])
  askj : ∀ j, j < 3 → H[T.k j]? = some (.dict (onesL (T.ak j)) (T.ep j))
  nine : 9 ≤ T.ar ∧ 9 ≤ T.ac ∧ 9 ≤ T.n0 ∧ 9 ≤ T.aH ∧ 9 ≤ T.aK ∧ ∀ i, i < 3 → 9 ≤ T.cc i ∧ 9 ≤ T.h i ∧ 9 ≤ T.k i
theorem TB.kp {T : TP} {H H' : CH} (k : Kp H H') (B : TB T H) : TB T H' := by
  obtain ⟨n1, n2, n3, n4, n5, n6⟩ := B.nine
  exact ⟨k.keep _ _ n1 B.rows, fun i j hi hj => k.keep _ _ (by unfold Rr; (first | lia | omega)) (B.row i j hi hj), k.keep _ _ n2 B.calls, fun i hi => k.keep _ _ (n6 i hi).1 (B.call i hi), k.keep _ _ n4 B.held, fun i hi => k.keep _ _ (n6 i hi).2.1 (B.heldj i hi), k.keep _ _ n5 B.asked, fun i hi => k.keep _ _ (n6 i hi).2.2 (B.askj i hi), B.nine⟩
structure TC (T : TP) (H : CH) (c : Nat → Option CV) : Prop where
  cells : CellsAt H c
  c2 : c 2 = some (.loc T.ac)
  c3 : c 3 = some (.loc T.ar)
theorem TC.pre {T : TP} {H H' : CH} {c : Nat → Option CV} (p : H <+: H') (C : TC T H c) : TC T H' c := ⟨C.cells.pre p, C.c2, C.c3⟩
theorem TC.set {T : TP} {H : CH} {c : Nat → Option CV} {k : Nat} (v : Option CV) (hk : 4 ≤ k ∧ k ≤ 8) (C : TC T H c) : TC T (H.set k (.cell v)) (fun i => if i = k then v else c i) :=
  ⟨C.cells.set v (by (first | lia | omega)), by rw [if_neg (by (first | lia | omega))]; exact C.c2, by rw [if_neg (by (first | lia | omega))]; exact C.c3⟩
theorem TC.keep {T : TP} {H : CH} {c : Nat → Option CV} {n : Nat} {o : CO} (h : 9 ≤ n) (C : TC T H c) : TC T (H.set n o) c := ⟨C.cells.keep h, C.c2, C.c3⟩
theorem TC.at_ {T : TP} {H : CH} {c : Nat → Option CV} {k : Nat} {v : CV} (C : TC T H c) (hk : 1 ≤ k ∧ k ≤ 8) (e : c k = some v) : H[k]? = some (.cell (some v)) := e ▸ C.cells.at_ k hk.1 hk.2
/-- a comprehension of three turns, its name a cell -/
theorem three_go {E : CE} {X e iter : Expr} {sc : Scope} {p q : Pos} {y : Str} {A : CH} {Φ : Nat → CV → CH → Prop} (hX : X = .ListComp e [⟨.Name y q, iter, [], 0⟩] sc p) (hk : kindIn E y = some .cell) (hc : E.cells.lookup y = some (A.length + 1)) (h0 : A.length ≠ 0)
    (mono : ∀ i v Y Z, Φ i v Y → Φ i v (Y ++ Z))
    (he : ∀ (i : Nat), i < 3 → ∀ L xs Y, ∃ Z v, Ev E L e (A ++ .list xs :: .cell (some (.int i)) :: Y) v (A ++ .list xs :: .cell (some (.int i)) :: (Y ++ Z)) ∧ Φ i v (Y ++ Z)) :
    ∃ v0 v1 v2 Y, Cm E X (.range 0 1 3) A.length [] (A ++ .list [] :: [.cell none]) (A ++ .list [v0, v1, v2] :: .cell (some (.int 2)) :: Y) ∧ Φ 0 v0 Y ∧ Φ 1 v1 Y ∧ Φ 2 v2 Y := by
  subst hX
  have bind : ∀ (i : Nat) (L : CL) (xs : List CV) (u : Option CV) (Y : CH), bindTarget E (.Name y q) [.int i] L (A ++ .list xs :: .cell u :: Y) = some (L, A ++ .list xs :: .cell (some (.int i)) :: Y) := fun i L xs u Y => by
    refine bt1 (set_cell' (n := A.length + 1) hk hc (hp_new rfl) (by (first | lia | omega)) ?_)
    rw [List.set_append_right _ _ (by (first | lia | omega)), show A.length + 1 - A.length = 1 by (first | lia | omega)]
    rfl
  obtain ⟨Z0, v0, e0, p0⟩ := he 0 (by decide) [] [] []
  obtain ⟨Z1, v1, e1, p1⟩ := he 1 (by decide) [] ([] ++ [v0]) ([] ++ Z0)
  obtain ⟨Z2, v2, e2, p2⟩ := he 2 (by decide) [] ([] ++ [v0] ++ [v1]) ([] ++ Z0 ++ Z1)
  refine ⟨v0, v1, v2, [] ++ Z0 ++ Z1 ++ Z2, ?_, mono _ _ _ _ (mono _ _ _ _ p0), mono _ _ _ _ p1, p2⟩
  refine Cm.push (X := [.cell none]) (it' := .range 1 1 2) rfl (bind 0 _ _ _ []) ⟨rfl, rfl⟩ e0 ⟨h0, by simp⟩ ?_
  refine Cm.push (it' := .range 2 1 1) rfl (bind 1 _ _ _ _) ⟨rfl, rfl⟩ e1 ⟨h0, by simp⟩ ?_
  refine Cm.push (it' := .range 3 1 0) rfl (bind 2 _ _ _ _) ⟨rfl, rfl⟩ e2 ⟨h0, by simp⟩ ?_
  exact Cm.done rfl rfl
theorem at_q {A Y : CH} {a b o : CO} {q : Nat} (h : Y[q]? = some o) : (A ++ a :: b :: Y)[A.length + 2 + q]? = some o := by
  rw [List.getElem?_append_right (by (first | lia | omega)), show A.length + 2 + q - A.length = q + 2 by (first | lia | omega)]
  exact h
theorem of_at {A Y : CH} {a b o : CO} {n : Nat} (hn : A.length + 2 ≤ n) (h : (A ++ a :: b :: Y)[n]? = some o) : ∃ q, n = A.length + 2 + q ∧ Y[q]? = some o := by
  obtain ⟨q, rfl⟩ := Nat.exists_eq_add_of_le hn
  refine ⟨q, rfl, ?_⟩
  rw [List.getElem?_append_right (by (first | lia | omega)), show A.length + 2 + q - A.length = q + 2 by (first | lia | omega)] at h
  exact h
theorem seg_nearest {T : TP} {H : CH} {c : Nat → Option CV} {L : CL} (B : TB T H) (C : TC T H c) :
    ∃ (H' : CH) (N : Nat) (n : Nat → Nat), Ex lawE (lawS 14) L H .next L H' ∧ Kp H H' ∧ TC T H' (fun i => if i = 5 then some (.loc N) else c i) ∧ 9 ≤ N ∧ H'[N]? = some (.list [.loc (n 0), .loc (n 1), .loc (n 2)]) ∧ ∀ i, i < 3 → 9 ≤ n i ∧ H'[n i]? = some (.list (intL (Pl T.d i))) := by
  have h9 := C.cells.len
  let A : CH := H ++ [.range 0 3 1]
  have lA : A.length = H.length + 1 := by simp [A]
  have pA : H <+: A := List.prefix_append _ _
  have n3 := C.at_ (k := 3) (by decide) C.c3
  obtain ⟨v0, v1, v2, Y, cm, ⟨q0, z0, g0⟩, ⟨q1, z1, g1⟩, ⟨q2, z2, g2⟩⟩ := three_go (E := nrE (A.length + 1)) (X := nrO) (A := A) (Φ := fun i v Y => ∃ q, v = .loc (A.length + 2 + q) ∧ Y[q]? = some (.list (intL (Pl T.d i)))) rfl rfl rfl (by (first | lia | omega))
    (fun i v Y Z h => by obtain ⟨q, a, b⟩ := h; exact ⟨q, a, hp_app b⟩)
    (fun i hi L xs Y => by
      have pB : H <+: A ++ .list xs :: .cell (some (.int i)) :: Y := pre_app pA _
      obtain ⟨Z, n, e1, e2, e3⟩ := near_elt (L := L) (k := A.length + 1) hi (pre_get' pB n3) (pre_get' pB B.rows) (fun j hj => pre_get' pB (B.row i j hi hj)) (hp_new rfl)
      have eZ : A ++ .list xs :: .cell (some (.int i)) :: Y ++ Z = A ++ .list xs :: .cell (some (.int i)) :: (Y ++ Z) := by simp
      rw [eZ] at e1 e3
      obtain ⟨q, rfl, h⟩ := of_at (by simp at e2; (first | lia | omega)) e3
      exact ⟨Z, _, e1, q, rfl, h⟩)
  subst z0 z1 z2
  have env : compEnv (comS nrO) lawE (A ++ [.list []]) = some (nrE ((A ++ [CO.list []]).length), A ++ [.list []] ++ [.cell none]) := rfl
  rw [show (A ++ [CO.list []]).length = A.length + 1 by simp, show A ++ [CO.list []] ++ [CO.cell none] = A ++ .list [] :: [.cell none] by simp] at env
  have ev : Co lawE L nrO H (.loc A.length) _ := Co.list rfl (range_src rfl) env cm
  have p2 : H <+: A ++ .list [.loc (A.length + 2 + q0), .loc (A.length + 2 + q1), .loc (A.length + 2 + q2)] :: .cell (some (.int 2)) :: Y := pre_app pA _
  have C2 := C.pre p2
  refine ⟨_, A.length, fun i => if i = 0 then A.length + 2 + q0 else if i = 1 then A.length + 2 + q1 else A.length + 2 + q2, Ex.setComp rfl ev (set_cell rfl rfl (C2.cells.at_ 5 (by decide) (by decide)) (by decide)), (Kp.of_pre p2).trans (Kp.cell (by decide)), C2.set _ (by decide), by (first | lia | omega), hp_set (by (first | lia | omega)) (hp_new0 rfl), fun i hi => ?_⟩
  rcases nat3 hi with rfl | rfl | rfl
  · exact ⟨by simp; (first | lia | omega), hp_set (by simp; (first | lia | omega)) (at_q g0)⟩
  · exact ⟨by simp; (first | lia | omega), hp_set (by simp; (first | lia | omega)) (at_q g1)⟩
  · exact ⟨by simp; (first | lia | omega), hp_set (by simp; (first | lia | omega)) (at_q g2)⟩
end Mine
end

section
set_option maxRecDepth 100000
set_option linter.unusedVariables false
set_option autoImplicit false
namespace Mine
open PySem
local macro_rules | `(tactic| walk_at "lk") => `(tactic| first | assumption | exact lk_eq | (apply lk_ne (by decide); walk_at "lk") | rfl)
local macro_rules | `(tactic| walk_at "hp") => `(tactic| first | assumption | (apply hp_app; walk_at "hp") | (apply hp_new0; rfl) | (apply hp_new; rfl) | (apply hp_set (by first | decide | (first | lia | omega)); walk_at "hp") | (apply hp_self; walk_at "hp"))
local macro_rules | `(tactic| walk_at "nm") => `(tactic| first | (apply nm_local rfl; walk_at "lk") | (apply nm_cell rfl rfl; walk_at "hp") | (apply nm_free rfl rfl; walk_at "hp") | exact nm_num rfl rfl)
local macro_rules | `(tactic| walk_at "st") => `(tactic| first | exact set_local rfl | (apply set_cell rfl rfl (h0 := by decide); walk_at "hp"))
local macro_rules | `(tactic| walk_at "bt") => `(tactic| first | (apply bt1; walk_at "st") | (apply bt2; walk_at "st"; walk_at "st") | (apply bt3; walk_at "hp"; walk_at "st"; walk_at "st"))
local macro_rules | `(tactic| walk_at "gi") => `(tactic| first | assumption | (apply gi_list; walk_at "hp"; (first | assumption | decide | (simp; done)); (first | assumption | rfl)) | (apply gi_tup; walk_at "hp"; (first | assumption | decide | (simp; done)); (first | assumption | rfl)))
local macro_rules | `(tactic| walk_at "ev") => `(tactic| first
  | exact Ev.int | exact Ev.str | exact Ev.bool | exact Ev.dict0
  | (apply Ev.name; walk_at "nm")
  | (apply Ev.sub rfl; walk_at "ev"; walk_at "ev"; walk_at "gi")
  | (apply Ev.neg; walk_at "ev")
  | (apply Ev.bin; walk_at "ev"; walk_at "ev"; first | assumption | rfl)
  | (apply Ev.cmp rfl; walk_at "ev"; walk_at "ev"; first | assumption | rfl))
local macro_rules | `(tactic| walk_at "ts") => `(tactic| first
  | (apply Ts.cmp rfl; walk_at "ev"; walk_at "ev"; first | assumption | rfl))
local macro_rules | `(tactic| walk_at "ex") => `(tactic| first
  | (apply Ex.set rfl; walk_at "ev"; walk_at "st")
  | (apply Ex.ret; walk_at "ev") | exact Ex.brk)

noncomputable def drO : Expr := asgE (nth (forB (lawS 16)) 0)
noncomputable def drT : Expr := argE 0 drO
noncomputable def drA : Expr := exC (nth (forB (lawS 16)) 1)
noncomputable def drI : Expr := argE 0 drA
noncomputable def drE : CE := inE drT lawE [("rows", 3), ("j", 4), ("calls", 2)]
theorem dear_turn {T : TP} {Hb H : CH} {c : Nat → Option CV} {L : CL} {aD j : Nat} {got : List CV} (B0 : TB T Hb) (K0 : Kp Hb H) (lb : Hb.length ≤ aD) (C : TC T H c) (c6 : c 6 = some (.loc aD)) (hD : H[aD]? = some (.list got)) (h9 : 9 ≤ aD) (hz : got.length ≤ 10) (hj : j < 3) :
    ∃ (H' : CH) (q : Nat), Exs lawE (forB (lawS 16)) L (H.set 4 (.cell (some (.int j)))) .next (L.set "order" (.loc (q - 1))) H' ∧ Kq [aD] H H' ∧ TC T H' (fun i => if i = 4 then some (.int j) else c i) ∧ H'[aD]? = some (.list (got ++ [.loc q])) ∧ H.length ≤ q ∧ H'[q]? = some (.list (intL (Ql (callC T.x) T.d j))) := by
  have hlen := C.cells.len
  have lD := lt_of hD
  have C4 := C.set (k := 4) (some (.int j)) (by decide)
  have K4 : Kp H (H.set 4 (.cell (some (.int j)))) := Kp.cell (by decide)
  have B4 := B0.kp (K0.trans K4)
  have hD4 : (H.set 4 (.cell (some (.int j))))[aD]? = some (.list got) := hp_set (by (first | lia | omega)) hD
  have l4 : (H.set 4 (CO.cell (some (.int j)))).length = H.length := by simp
  generalize H.set 4 (.cell (some (.int j))) = H4 at C4 K4 B4 hD4 l4
  have n2 := C4.at_ (k := 2) (by decide) C4.c2
  have n3 := C4.at_ (k := 3) (by decide) C4.c3
  have n4 := C4.at_ (k := 4) (v := .int j) (by decide) (if_pos rfl)
  have n6 := C4.at_ (k := 6) (v := .loc aD) (by decide) (by rw [if_neg (by decide)]; exact c6)
  let A : CH := H4 ++ [.range 0 3 1]
  have lA : A.length = H4.length + 1 := by simp [A]
  have pA : H4 <+: A := List.prefix_append _ _
  let K (i : Nat) : List Int := [-callC T.x i j, T.d i j, -(i : Int)]
  have el : ∀ (i : Nat) (L : CL) (xs : List CV) (X : CH), i < 3 → L.lookup ("i" : Str) = some (.int i) → Ev drE L (eltE drT) (A ++ .list xs :: X) (.loc (A.length + 1 + X.length)) (A ++ .list xs :: (X ++ [.tup (intL (K i))])) := fun i L xs X hi g => by
    have pB : H4 <+: A ++ .list xs :: X := pre_app pA _
    rw [app_cons, show A.length + 1 + X.length = (A ++ CO.list xs :: X).length by simp; (first | lia | omega)]
    have cj : (intL (callL (T.x i)))[((j : Nat) : Int).toNat]? = some (.int (callC T.x i j)) := by
      rcases j with _ | _ | _ | j <;> first | rfl | (first | lia | omega)
    refine Ev.tup (vs := intL (K i)) (Es.cons (H1 := A ++ .list xs :: X) rfl ?_ (Es.cons (H1 := A ++ .list xs :: X) rfl ?_ (Es.cons rfl (Ev.neg (Ev.name (nm_local rfl g))) Es.nil))) (by simp [intL, K])
    · refine Ev.neg (Ev.sub rfl (a := .loc (T.cc i)) (H1 := A ++ .list xs :: X) ?_ (Ev.name (nm_cell rfl rfl (pre_get' pB n4))) (gi_list (pre_get' pB (B4.call i hi)) ⟨by (first | lia | omega), by simp [intL, callL]⟩ cj))
      exact Ev.sub rfl (Ev.name (nm_cell rfl rfl (pre_get' pB n2))) (Ev.name (nm_local rfl g)) (gi_list (pre_get' pB B4.calls) ⟨by (first | lia | omega), by simp⟩ (list3 (a := 0) (b := 0) (c := 0) hi))
    · exact Ev.sub rfl (ev_row hi hj (pre_get' pB B4.rows) (nm_cell rfl rfl (pre_get' pB n3)) (Ev.name (nm_local rfl g)) (Ev.name (nm_cell rfl rfl (pre_get' pB n4)))) Ev.int (gi_tup (pre_get' pB (B4.row i j hi hj)) ⟨by decide, by simp [intL, rowV]⟩ rfl)
  have cm : Cm drE drT (.range 0 1 3) A.length [] (A ++ .list [] :: []) (A ++ .list [.loc (A.length + 1), .loc (A.length + 2), .loc (A.length + 3)] :: [.tup (intL (K 0)), .tup (intL (K 1)), .tup (intL (K 2))]) := by
    refine Cm.push (it' := .range 1 1 2) rfl (bt1 (set_local rfl)) ⟨rfl, rfl⟩ (el 0 _ _ _ (by decide) lk_eq) ⟨by (first | lia | omega), by simp⟩ ?_
    refine Cm.push (it' := .range 2 1 1) rfl (bt1 (set_local rfl)) ⟨rfl, rfl⟩ (el 1 _ _ _ (by decide) lk_eq) ⟨by (first | lia | omega), by simp⟩ ?_
    refine Cm.push (it' := .range 3 1 0) rfl (bt1 (set_local rfl)) ⟨rfl, rfl⟩ (el 2 _ _ _ (by decide) lk_eq) ⟨by (first | lia | omega), by simp⟩ ?_
    exact Cm.done rfl rfl
  have evT : Ev lawE L drT H4 (.loc A.length) (A ++ .list [.loc (A.length + 1), .loc (A.length + 2), .loc (A.length + 3)] :: [.tup (intL (K 0)), .tup (intL (K 1)), .tup (intL (K 2))]) :=
    Ev.listComp rfl (range_src rfl) rfl cm
  obtain ⟨Bh, hB⟩ : ∃ B, A ++ .list [.loc (A.length + 1), .loc (A.length + 2), .loc (A.length + 3)] :: [.tup (intL (K 0)), .tup (intL (K 1)), .tup (intL (K 2))] = B := ⟨_, rfl⟩
  have b0 : Bh[A.length]? = some (.list [.loc (A.length + 1), .loc (A.length + 2), .loc (A.length + 3)]) := by rw [← hB]; exact hp_new0 rfl
  have b1 : Bh[A.length + 1]? = some (.tup (intL (K 0))) := by rw [← hB]; exact hp_new rfl
  have b2 : Bh[A.length + 2]? = some (.tup (intL (K 1))) := by rw [← hB]; exact hp_new rfl
  have b3 : Bh[A.length + 3]? = some (.tup (intL (K 2))) := by rw [← hB]; exact hp_new rfl
  have lB : Bh.length = A.length + 4 := by rw [← hB]; simp
  have pB : H4 <+: Bh := by rw [← hB]; exact pre_app pA _
  rw [hB] at evT
  have srt := BiS.sorted b0 b1 b2 b3 ⟨rfl, rfl, by simp, by simp, by simp⟩
  let V : List CV := order3 (K 0) (K 1) (K 2) (.loc (A.length + 1)) (.loc (A.length + 2)) (.loc (A.length + 3))
  let D : CH := Bh ++ [.list V]
  have gD : D[Bh.length]? = some (.list V) := hp_new0 rfl
  have lD' : D.length = Bh.length + 1 := by simp [D]
  have pD : H4 <+: D := pre_app pB _
  have s0 : Ex lawE (nth (forB (lawS 16)) 0) L H4 .next (L.set "order" (.loc Bh.length)) D :=
    Ex.set rfl (Ev.bi (vs := [.loc A.length]) rfl rfl rfl rfl (Es.cons rfl evT Es.nil) srt) (set_local rfl)
  let f : CV → CV := fun v => if v = .loc (A.length + 1) then .int 0 else if v = .loc (A.length + 2) then .int 1 else .int 2
  have f1 : f (.loc (A.length + 1)) = .int 0 := if_pos rfl
  have f2 : f (.loc (A.length + 2)) = .int 1 := by
    show (if _ then _ else _) = _
    rw [if_neg (by simp), if_pos rfl]
  have f3 : f (.loc (A.length + 3)) = .int 2 := by
    show (if _ then _ else _) = _
    rw [if_neg (by simp), if_neg (by simp)]
  have fV : V.map f = intL (Ql (callC T.x) T.d j) := by
    show (order3 _ _ _ _ _ _).map f = (order3 _ _ _ _ _ _).map CV.int
    rw [order3_map, order3_map, f1, f2, f3]
    rfl
  have go := map_go (X := drI) (E := inE drI lawE []) (H := D) (m := Bh.length) (all := V) (f := f) rfl gD (by (first | lia | omega)) (by rw [order3_len]; decide) (fun v hv L xs => by
    refine ⟨_, bt1 (set_local rfl), ?_⟩
    have key : ∀ (t : Nat) (a b e : Int), v = .loc t → D[t]? = some (.tup (intL [a, b, -e])) → f v = .int e → Ev (inE drI lawE []) (L.set "one" v) (eltE drI) (D ++ [.list xs]) (f v) (D ++ [.list xs]) := fun t a b e e1 e2 e3 => by
      rw [e3]
      have := Ev.neg (p := ⟨0, 0, 0, 0⟩) (E := inE drI lawE []) (L := L.set "one" v) (H := D ++ [.list xs]) (H1 := D ++ [.list xs]) (i := -e) (x := .Subscript (.Name "one" ⟨0, 0, 0, 0⟩) (.Constant (.int 2) 0 ⟨0, 0, 0, 0⟩) ⟨0, 0, 0, 0⟩) (Ev.sub rfl (Ev.name (nm_local rfl (by rw [e1]; exact lk_eq))) Ev.int (gi_tup (hp_app e2) ⟨by decide, by simp [intL]⟩ rfl))
      rw [Int.neg_neg] at this
      rw [show CV.int e = .int (- -e) by rw [Int.neg_neg]]
      exact Ev.neg (Ev.sub rfl (Ev.name (nm_local rfl (by rw [e1]; exact lk_eq))) Ev.int (gi_tup (hp_app e2) ⟨by decide, by simp [intL]⟩ rfl))
    rcases order3_mem hv with h | h | h
    · exact key _ _ _ 0 h (hp_app b1) (by rw [h]; exact f1)
    · exact key _ _ _ 1 h (hp_app b2) (by rw [h]; exact f2)
    · exact key _ _ _ 2 h (hp_app b3) (by rw [h]; exact f3)) V [] [] rfl
  rw [fV] at go
  have src : Sc lawE (L.set "order" (.loc Bh.length)) (genI drI) D (.list Bh.length 0) D := by
    apply Sc.of
    · rfl
    · exact Ev.name (nm_local rfl lk_eq)
    · exact it_list gD
  have evI : Ev lawE (L.set "order" (.loc Bh.length)) drI D (.loc D.length) (D ++ [.list (intL (Ql (callC T.x) T.d j))]) := Ev.listComp rfl src rfl go
  have gaD : D[aD]? = some (.list got) := pre_get' pD hD4
  have s1 : Ex lawE (nth (forB (lawS 16)) 1) (L.set "order" (.loc Bh.length)) D .next (L.set "order" (.loc Bh.length)) ((D ++ [CO.list (intL (Ql (callC T.x) T.d j))]).set aD (.list (got ++ [.loc D.length]))) :=
    Ex.exprNone (Ev.append (n := aD) (H1 := D) rfl rfl rfl (Ev.name (nm_cell rfl rfl (pre_get' pD n6))) evI gaD (hp_app gaD) (by (first | lia | omega)) (by (first | lia | omega)))
  refine ⟨_, D.length, ?_, ?_, ((C4.pre pD).pre (List.prefix_append _ _)).keep h9, hp_self (hp_app gaD), by (first | lia | omega), hp_set (by (first | lia | omega)) (hp_new0 (X := [CO.list (intL (Ql (callC T.x) T.d j))]) rfl)⟩
  · rw [show D.length - 1 = Bh.length by (first | lia | omega)]
    exact Exs.cons s0 (Exs.cons s1 Exs.nil)
  · exact ((K4.q.trans (Kq.of_pre pD)).trans (Kq.app _)).trans (Kq.set _ (by simp))
theorem seg_dearest {T : TP} {H : CH} {c : Nat → Option CV} {L : CL} (B : TB T H) (C : TC T H c) :
    ∃ (H' : CH) (L' : CL) (c' : Nat → Option CV) (aD : Nat) (q : Nat → Nat), Exs lawE [lawS 15, lawS 16] L H .next L' H' ∧ Kp H H' ∧ TC T H' c' ∧ c' 5 = c 5 ∧ c' 6 = some (.loc aD) ∧ 9 ≤ aD ∧ H'[aD]? = some (.list [.loc (q 0), .loc (q 1), .loc (q 2)]) ∧ (∀ j, j < 3 → 9 ≤ q j ∧ H'[q j]? = some (.list (intL (Ql (callC T.x) T.d j)))) ∧ ∀ y : Str, y ≠ "order" → L'.lookup y = L.lookup y := by
  have h9 := C.cells.len
  have p := List.prefix_append H [CO.list []]
  have s15 : Ex lawE (lawS 15) L H .next L ((H ++ [CO.list []]).set 6 (.cell (some (.loc H.length)))) :=
    Ex.set rfl (Ev.list Es.nil (by simp)) (set_cell rfl rfl ((C.pre p).cells.at_ 6 (by decide) (by decide)) (by decide))
  have k1 : Kp H ((H ++ [CO.list []]).set 6 (.cell (some (.loc H.length)))) := (Kp.of_pre p).trans (Kp.cell (by decide))
  have C1 := (C.pre p).set (k := 6) (some (.loc H.length)) (by decide)
  have r1 : ((H ++ [CO.list []]).set 6 (.cell (some (.loc H.length))))[H.length]? = some (.list []) := hp_set (by (first | lia | omega)) (hp_new0 rfl)
  generalize (H ++ [CO.list []]).set 6 (.cell (some (.loc H.length))) = H1 at s15 k1 C1 r1
  have k2 : Kp H (H1 ++ [CO.range 0 3 1]) := k1.trans (Kp.app _)
  have C2 := C1.pre (List.prefix_append H1 [CO.range 0 3 1])
  have r2 := hp_app (X := [CO.range 0 3 1]) r1
  have l2 : H.length < (H1 ++ [CO.range 0 3 1]).length := by have := lt_of r2; exact this
  obtain ⟨Ha, q0, a1, a2, a3, a4, a5, a6⟩ := dear_turn (L := L) (j := 0) B k2 (Nat.le_refl _) C2 (by simp) r2 h9 (by simp) (by decide)
  have ka : Kp H Ha := Kq.fresh (k2.q.trans a2) (Nat.le_refl _)
  obtain ⟨Hb, q1, b1, b2, b3, b4, b5, b6⟩ := dear_turn (L := L.set "order" (.loc (q0 - 1))) (j := 1) B ka (Nat.le_refl _) a3 (by simp) a4 h9 (by simp) (by decide)
  have kb : Kp H Hb := Kq.fresh (ka.q.trans b2) (Nat.le_refl _)
  obtain ⟨Hc, q2, c1, c2, c3, c4, c5, c6⟩ := dear_turn (L := (L.set "order" (.loc (q0 - 1))).set "order" (.loc (q1 - 1))) (j := 2) B kb (Nat.le_refl _) b3 (by simp) b4 h9 (by simp) (by decide)
  have kc : Kp H Hc := Kq.fresh (kb.q.trans c2) (Nat.le_refl _)
  have la := a2.len
  have lb := b2.len
  have ne : ∀ n, n ≠ H.length → n ∉ [H.length] := fun n h => by simpa using h
  refine ⟨Hc, _, _, H.length, fun j => if j = 0 then q0 else if j = 1 then q1 else q2, Exs.cons s15 (Exs.cons (Ex.for_ (range_src rfl) (Fr_.next (it' := .range 1 1 2) rfl (bt1 (set_cell rfl rfl (C2.cells.at_ 4 (by decide) (by decide)) (by decide))) a1 (Fr_.next (it' := .range 2 1 1) rfl (bt1 (set_cell rfl rfl (a3.cells.at_ 4 (by decide) (by decide)) (by decide))) b1 (Fr_.next (it' := .range 3 1 0) rfl (bt1 (set_cell rfl rfl (b3.cells.at_ 4 (by decide) (by decide)) (by decide))) c1 (Fr_.done rfl))))) Exs.nil), kc, c3, rfl, rfl, h9, c4, fun j hj => ?_, fun y hy => ?_⟩
  · rcases nat3 hj with rfl | rfl | rfl
    · exact ⟨by simp; (first | lia | omega), c2.keep _ _ (by simp; (first | lia | omega)) (ne _ (by simp; (first | lia | omega))) (b2.keep _ _ (by simp; (first | lia | omega)) (ne _ (by simp; (first | lia | omega))) a6)⟩
    · exact ⟨by simp; (first | lia | omega), c2.keep _ _ (by simp; (first | lia | omega)) (ne _ (by simp; (first | lia | omega))) b6⟩
    · exact ⟨by simp; (first | lia | omega), c6⟩
  · rw [CL.lookup_set, if_neg hy, CL.lookup_set, if_neg hy, CL.lookup_set, if_neg hy]
end Mine
end

section
set_option maxRecDepth 100000
set_option linter.unusedVariables false
set_option autoImplicit false
namespace Mine
open PySem
local macro_rules | `(tactic| walk_at "lk") => `(tactic| first | assumption | exact lk_eq | (apply lk_ne (by decide); walk_at "lk") | rfl)
local macro_rules | `(tactic| walk_at "hp") => `(tactic| first | assumption | (apply hp_app; walk_at "hp") | (apply hp_new0; rfl) | (apply hp_new; rfl) | (apply hp_set (by first | decide | (first | lia | omega)); walk_at "hp") | (apply hp_self; walk_at "hp"))
local macro_rules | `(tactic| walk_at "nm") => `(tactic| first | (apply nm_local rfl; walk_at "lk") | (apply nm_cell rfl rfl; walk_at "hp") | (apply nm_free rfl rfl; walk_at "hp") | exact nm_num rfl rfl)
local macro_rules | `(tactic| walk_at "st") => `(tactic| first | exact set_local rfl | (apply set_cell rfl rfl (h0 := by decide); walk_at "hp"))
local macro_rules | `(tactic| walk_at "bt") => `(tactic| first | (apply bt1; walk_at "st") | (apply bt2; walk_at "st"; walk_at "st") | (apply bt3; walk_at "hp"; walk_at "st"; walk_at "st"))
local macro_rules | `(tactic| walk_at "gi") => `(tactic| first | assumption | (apply gi_list; walk_at "hp"; (first | assumption | decide | (simp; done)); (first | assumption | rfl)) | (apply gi_tup; walk_at "hp"; (first | assumption | decide | (simp; done)); (first | assumption | rfl)))
local macro_rules | `(tactic| walk_at "ev") => `(tactic| first
  | exact Ev.int | exact Ev.str | exact Ev.bool | exact Ev.dict0
  | (apply Ev.name; walk_at "nm")
  | (apply Ev.sub rfl; walk_at "ev"; walk_at "ev"; walk_at "gi")
  | (apply Ev.neg; walk_at "ev")
  | (apply Ev.bin; walk_at "ev"; walk_at "ev"; first | assumption | rfl)
  | (apply Ev.cmp rfl; walk_at "ev"; walk_at "ev"; first | assumption | rfl))
local macro_rules | `(tactic| walk_at "ts") => `(tactic| first
  | (apply Ts.cmp rfl; walk_at "ev"; walk_at "ev"; first | assumption | rfl))
local macro_rules | `(tactic| walk_at "ex") => `(tactic| first
  | (apply Ex.set rfl; walk_at "ev"; walk_at "st")
  | (apply Ex.ret; walk_at "ev") | exact Ex.brk)

noncomputable def wayH (H : CH) : CH := H ++ [CO.tup (intL [0, 1, 2]), .tup (intL [0, 2, 1]), .tup (intL [1, 0, 2]), .tup (intL [1, 2, 0]), .tup (intL [2, 0, 1]), .tup (intL [2, 1, 0]), .list ((List.range' H.length 6).map .loc)]
theorem es_tup {E : CE} {a b c : Int} {p q r s : Pos} {k n u w : Nat} {H H' : CH} {L : CL} {es : List Expr} {vs : List CV} (h : Es E L es (H ++ [.tup (intL [a, b, c])]) vs H') : Es E L (.Tuple [.Constant (.int a) k p, .Constant (.int b) n q, .Constant (.int c) u r] w s :: es) H (.loc H.length :: vs) H' :=
  Es.cons rfl (Ev.tup (vs := intL [a, b, c]) (Es.cons rfl Ev.int (Es.cons rfl Ev.int (Es.cons rfl Ev.int Es.nil))) (by simp [intL])) h
theorem seg_ways {H : CH} {L : CL} : Ex lawE (lawS 17) L H .next (L.set "ways" (.loc (H.length + 6))) (wayH H) := by
  have ev : Ev lawE L (asgE (lawS 17)) H (.loc (H ++ [CO.tup (intL [0, 1, 2])] ++ [CO.tup (intL [0, 2, 1])] ++ [CO.tup (intL [1, 0, 2])] ++ [CO.tup (intL [1, 2, 0])] ++ [CO.tup (intL [2, 0, 1])] ++ [CO.tup (intL [2, 1, 0])]).length) (H ++ [CO.tup (intL [0, 1, 2])] ++ [CO.tup (intL [0, 2, 1])] ++ [CO.tup (intL [1, 0, 2])] ++ [CO.tup (intL [1, 2, 0])] ++ [CO.tup (intL [2, 0, 1])] ++ [CO.tup (intL [2, 1, 0])] ++ [.list [CV.loc (H).length, CV.loc (H ++ [CO.tup (intL [0, 1, 2])]).length, CV.loc (H ++ [CO.tup (intL [0, 1, 2])] ++ [CO.tup (intL [0, 2, 1])]).length, CV.loc (H ++ [CO.tup (intL [0, 1, 2])] ++ [CO.tup (intL [0, 2, 1])] ++ [CO.tup (intL [1, 0, 2])]).length, CV.loc (H ++ [CO.tup (intL [0, 1, 2])] ++ [CO.tup (intL [0, 2, 1])] ++ [CO.tup (intL [1, 0, 2])] ++ [CO.tup (intL [1, 2, 0])]).length, CV.loc (H ++ [CO.tup (intL [0, 1, 2])] ++ [CO.tup (intL [0, 2, 1])] ++ [CO.tup (intL [1, 0, 2])] ++ [CO.tup (intL [1, 2, 0])] ++ [CO.tup (intL [2, 0, 1])]).length]]) := @Ev.list lawE L H _ _ _ _ (es_tup (es_tup (es_tup (es_tup (es_tup (es_tup Es.nil)))))) (by simp)
  have e : H ++ [CO.tup (intL [0, 1, 2])] ++ [CO.tup (intL [0, 2, 1])] ++ [CO.tup (intL [1, 0, 2])] ++ [CO.tup (intL [1, 2, 0])] ++ [CO.tup (intL [2, 0, 1])] ++ [CO.tup (intL [2, 1, 0])] ++ [CO.list [CV.loc (H).length, CV.loc (H ++ [CO.tup (intL [0, 1, 2])]).length, CV.loc (H ++ [CO.tup (intL [0, 1, 2])] ++ [CO.tup (intL [0, 2, 1])]).length, CV.loc (H ++ [CO.tup (intL [0, 1, 2])] ++ [CO.tup (intL [0, 2, 1])] ++ [CO.tup (intL [1, 0, 2])]).length, CV.loc (H ++ [CO.tup (intL [0, 1, 2])] ++ [CO.tup (intL [0, 2, 1])] ++ [CO.tup (intL [1, 0, 2])] ++ [CO.tup (intL [1, 2, 0])]).length, CV.loc (H ++ [CO.tup (intL [0, 1, 2])] ++ [CO.tup (intL [0, 2, 1])] ++ [CO.tup (intL [1, 0, 2])] ++ [CO.tup (intL [1, 2, 0])] ++ [CO.tup (intL [2, 0, 1])]).length]] = wayH H := by
    simp [wayH, List.range'_succ]
  rw [e, show (H ++ [CO.tup (intL [0, 1, 2])] ++ [CO.tup (intL [0, 2, 1])] ++ [CO.tup (intL [1, 0, 2])] ++ [CO.tup (intL [1, 2, 0])] ++ [CO.tup (intL [2, 0, 1])] ++ [CO.tup (intL [2, 1, 0])]).length = H.length + 6 by simp] at ev
  exact Ex.set rfl ev (set_local rfl)
/-- what the tuple r holds -/
noncomputable def msW (W r : Nat) : List Int := way6.getD (r - W) []
theorem msW_map (W : Nat) : (List.range' W 6).map (msW W) = way6 := by
  simp [List.range'_succ, msW, way6, show W + 1 - W = 1 by (first | lia | omega), show W + 1 + 1 - W = 2 by (first | lia | omega), show W + 1 + 1 + 1 - W = 3 by (first | lia | omega), show W + 1 + 1 + 1 + 1 - W = 4 by (first | lia | omega), show W + 1 + 1 + 1 + 1 + 1 - W = 5 by (first | lia | omega)]
noncomputable def stabL (c d : Nat → Nat → Int) (W : Nat) : List Nat := (List.range' W 6).filter fun r => stableB (msW W r) (Pl d) (Ql c d)
theorem stabL_map (c d : Nat → Nat → Int) (W : Nat) : (stabL c d W).map (msW W) = stab6 c d := by
  unfold stabL stab6
  rw [← msW_map W, filter_map']
theorem wayH_at {H : CH} {r : Nat} (hr : r ∈ List.range' H.length 6) : (wayH H)[r]? = some (.tup (intL (msW H.length r))) ∧ msW H.length r ∈ way6 := by
  rw [List.mem_range'_1] at hr
  obtain ⟨q, rfl⟩ := Nat.exists_eq_add_of_le hr.1
  have hq : q < 6 := by (first | lia | omega)
  unfold msW wayH
  rw [Nat.add_sub_cancel_left]
  have : q = 0 ∨ q = 1 ∨ q = 2 ∨ q = 3 ∨ q = 4 ∨ q = 5 := by (first | lia | omega)
  rcases this with rfl | rfl | rfl | rfl | rfl | rfl
  · exact ⟨hp_new (k := 0) rfl, by decide⟩
  · exact ⟨hp_new (k := 1) rfl, by decide⟩
  · exact ⟨hp_new (k := 2) rfl, by decide⟩
  · exact ⟨hp_new (k := 3) rfl, by decide⟩
  · exact ⟨hp_new (k := 4) rfl, by decide⟩
  · exact ⟨hp_new (k := 5) rfl, by decide⟩
noncomputable def stO : Expr := asgE (lawS 18)
noncomputable def stE : CE := inE stO lawE [("nearest", 5), ("dearest", 6)]
theorem stab_go {A : CH} {W N D : Nat} {all : List Nat} {ms : Nat → List Int} {P Q : Nat → List Int} (h0 : A.length ≠ 0) (hW : A[W]? = some (.list (all.map .loc))) (hz : all.length ≤ 900) (hm : ∀ r ∈ all, A[r]? = some (.tup (intL (ms r))) ∧ ms r ∈ way6) (T : TabsAt A N D P Q) (n5 : A[5]? = some (.cell (some (.loc N)))) (n6 : A[6]? = some (.cell (some (.loc D)))) :
    ∀ (rest done got : List Nat) (L : CL) (X : CH), all = done ++ rest → got.length + rest.length ≤ 900 → ∃ X', Cm stE stO (.list W done.length) A.length L (A ++ .list (got.map .loc) :: X) (A ++ .list ((got ++ rest.filter (fun r => stableB (ms r) P Q)).map .loc) :: X')
  | [], done, got, L, X, e, hg => by
    have : (all.map CV.loc)[done.length]? = none := by rw [e]; simp
    refine ⟨X, ?_⟩
    rw [List.filter_nil, List.append_nil]
    exact Cm.done rfl (turn_list_end (hp_app hW) this)
  | r :: rest, done, got, L, X, e, hg => by
    have hi : (all.map CV.loc)[done.length]? = some (.loc r) := by rw [e]; simp
    obtain ⟨t1, t2⟩ := hm r (by rw [e]; simp)
    have p : A <+: A ++ .list (got.map .loc) :: X := List.prefix_append _ _
    obtain ⟨l3, nd, rng⟩ := perm_len t2
    obtain ⟨a, b, c, hms⟩ : ∃ a b c, ms r = [a, b, c] := by
      rcases hq : ms r with _ | ⟨a, _ | ⟨b, _ | ⟨c, _ | ⟨_, _⟩⟩⟩⟩ <;> rw [hq] at l3 <;> simp at l3
      exact ⟨a, b, c, rfl⟩
    have run := stb_run (lv := 5) (M := r) (a := a) (b := b) (c := c) (by have := pre_get' p t1; rw [hms] at this; exact this) (T.pre p) (fun j h1 h2 => by
      obtain ⟨k, rfl⟩ := Int.eq_ofNat_of_zero_le h1
      rw [← hms]
      exact (perm_idx t2 (by (first | lia | omega))).2.2)
    rw [← hms] at run
    have test : Tst stE (L.set "mates" (.loc r)) (ifsE stO) (A ++ .list (got.map .loc) :: X) (stableB (ms r) P Q) (A ++ .list (got.map .loc) :: (X ++ [.range 0 3 1])) := by
      show Ts _ _ _ _ _ _
      refine Ts.of rfl (v := .bool (stableB (ms r) P Q)) (Ev.fn (g := stbF) rfl rfl rfl (H1 := A ++ .list (got.map .loc) :: X) ?_ (by rw [app_cons]; exact run)) rfl
      exact Es.cons rfl (Ev.name (nm_local rfl lk_eq)) (Es.cons rfl (Ev.name (nm_cell rfl rfl (pre_get' p n5))) (Es.cons rfl (Ev.name (nm_cell rfl rfl (pre_get' p n6))) Es.nil))
    cases hb : stableB (ms r) P Q with
    | true =>
      rw [hb] at test
      obtain ⟨X', key⟩ := stab_go h0 hW hz hm T n5 n6 rest (done ++ [r]) (got ++ [r]) (L.set "mates" (.loc r)) (X ++ [.range 0 3 1]) (by rw [e]; simp) (by simp at hg ⊢; (first | lia | omega))
      refine ⟨X', ?_⟩
      rw [List.filter_cons_of_pos (p := fun r => stableB (ms r) P Q) hb]
      rw [List.map_append, List.append_assoc, List.length_append] at key
      have hs : (A ++ CO.list (got.map .loc) :: (X ++ [.range 0 3 1])).set A.length (.list (got.map .loc ++ [.loc r])) = A ++ .list (got.map .loc ++ [.loc r]) :: (X ++ [.range 0 3 1]) := by simp
      refine Cm.add (turn_list (hp_app hW) hi) (bt1 (set_local rfl)) test (Ev.name (nm_local rfl lk_eq)) (hp_new0 rfl) ⟨h0, by simp at hg ⊢; (first | lia | omega)⟩ ?_
      rw [hs]
      exact key
    | false =>
      rw [hb] at test
      obtain ⟨X', key⟩ := stab_go h0 hW hz hm T n5 n6 rest (done ++ [r]) got (L.set "mates" (.loc r)) (X ++ [.range 0 3 1]) (by rw [e]; simp) (by simp at hg ⊢; (first | lia | omega))
      refine ⟨X', ?_⟩
      rw [List.filter_cons_of_neg (p := fun r => stableB (ms r) P Q) (by rw [hb]; simp)]
      rw [List.length_append] at key
      exact Cm.skip (turn_list (hp_app hW) hi) (bt1 (set_local rfl)) test key
theorem seg_stable {T : TP} {H : CH} {c : Nat → Option CV} {L : CL} {W N D : Nat} {all : List Nat} {ms : Nat → List Int} {P Q : Nat → List Int} (C : TC T H c) (c5 : c 5 = some (.loc N)) (c6 : c 6 = some (.loc D)) (g : L.lookup ("ways" : Str) = some (.loc W)) (hW : H[W]? = some (.list (all.map .loc))) (hz : all.length ≤ 900) (hm : ∀ r ∈ all, H[r]? = some (.tup (intL (ms r))) ∧ ms r ∈ way6) (Tb : TabsAt H N D P Q) :
    ∃ (H' : CH) (S : Nat), Ex lawE (lawS 18) L H .next L H' ∧ Kp H H' ∧ TC T H' (fun i => if i = 7 then some (.loc S) else c i) ∧ 9 ≤ S ∧ H'[S]? = some (.list ((all.filter fun r => stableB (ms r) P Q).map .loc)) := by
  have h9 := C.cells.len
  obtain ⟨X', cm⟩ := stab_go (A := H) (by (first | lia | omega)) hW hz hm Tb (C.at_ (by decide) c5) (C.at_ (by decide) c6) all [] [] [] [] rfl (by simp; (first | lia | omega))
  have src : Sc lawE L (genI stO) H (.list W 0) H := by
    apply Sc.of
    · rfl
    · exact Ev.name (nm_local rfl g)
    · exact it_list hW
  have ev : Co lawE L stO H (.loc H.length) _ := Co.list rfl src (rfl : compEnv (comS stO) lawE (H ++ [.list []]) = some (stE, H ++ [.list []])) cm
  have C2 := C.pre (List.prefix_append H (.list ((all.filter fun r => stableB (ms r) P Q).map .loc) :: X'))
  refine ⟨_, H.length, Ex.setComp rfl ev (set_cell rfl rfl (C2.cells.at_ 7 (by decide) (by decide)) (by decide)), (Kp.app _).trans (Kp.cell (by decide)), C2.set _ (by decide), h9, hp_set (by (first | lia | omega)) (hp_new0 rfl)⟩
end Mine
end

section
set_option maxRecDepth 100000
set_option linter.unusedVariables false
set_option autoImplicit false
namespace Mine
open PySem
local macro_rules | `(tactic| walk_at "lk") => `(tactic| first | assumption | exact lk_eq | (apply lk_ne (by decide); walk_at "lk") | rfl)
local macro_rules | `(tactic| walk_at "hp") => `(tactic| first | assumption | (apply hp_app; walk_at "hp") | (apply hp_new0; rfl) | (apply hp_new; rfl) | (apply hp_set (by first | decide | (first | lia | omega)); walk_at "hp") | (apply hp_self; walk_at "hp"))
local macro_rules | `(tactic| walk_at "nm") => `(tactic| first | (apply nm_local rfl; walk_at "lk") | (apply nm_cell rfl rfl; walk_at "hp") | (apply nm_free rfl rfl; walk_at "hp") | exact nm_num rfl rfl)
local macro_rules | `(tactic| walk_at "st") => `(tactic| first | exact set_local rfl | (apply set_cell rfl rfl (h0 := by decide); walk_at "hp"))
local macro_rules | `(tactic| walk_at "bt") => `(tactic| first | (apply bt1; walk_at "st") | (apply bt2; walk_at "st"; walk_at "st") | (apply bt3; walk_at "hp"; walk_at "st"; walk_at "st"))
local macro_rules | `(tactic| walk_at "gi") => `(tactic| first | assumption | (apply gi_list; walk_at "hp"; (first | assumption | decide | (simp; done)); (first | assumption | rfl)) | (apply gi_tup; walk_at "hp"; (first | assumption | decide | (simp; done)); (first | assumption | rfl)))
local macro_rules | `(tactic| walk_at "ev") => `(tactic| first
  | exact Ev.int | exact Ev.str | exact Ev.bool | exact Ev.dict0
  | (apply Ev.name; walk_at "nm")
  | (apply Ev.sub rfl; walk_at "ev"; walk_at "ev"; walk_at "gi")
  | (apply Ev.neg; walk_at "ev")
  | (apply Ev.bin; walk_at "ev"; walk_at "ev"; first | assumption | rfl)
  | (apply Ev.cmp rfl; walk_at "ev"; walk_at "ev"; first | assumption | rfl))
local macro_rules | `(tactic| walk_at "ts") => `(tactic| first
  | (apply Ts.cmp rfl; walk_at "ev"; walk_at "ev"; first | assumption | rfl))
local macro_rules | `(tactic| walk_at "ex") => `(tactic| first
  | (apply Ex.set rfl; walk_at "ev"; walk_at "st")
  | (apply Ex.ret; walk_at "ev") | exact Ex.brk)

structure UP where
  (N D S Q W : Nat)
  (n q : Nat → Nat)
/-- and what stands before best -/
structure TY (T : TP) (U : UP) (H : CH) (c : Nat → Option CV) : Prop where
  B : TB T H
  C : TC T H c
  c5 : c 5 = some (.loc U.N)
  c6 : c 6 = some (.loc U.D)
  c7 : c 7 = some (.loc U.S)
  near : H[U.N]? = some (.list [.loc (U.n 0), .loc (U.n 1), .loc (U.n 2)])
  nearj : ∀ i, i < 3 → H[U.n i]? = some (.list (intL (Pl T.d i)))
  dear : H[U.D]? = some (.list [.loc (U.q 0), .loc (U.q 1), .loc (U.q 2)])
  dearj : ∀ j, j < 3 → H[U.q j]? = some (.list (intL (Ql (callC T.x) T.d j)))
  stab : H[U.S]? = some (.list ((stabL (callC T.x) T.d U.W).map .loc))
  ways : ∀ r ∈ stabL (callC T.x) T.d U.W, H[r]? = some (.tup (intL (msW U.W r))) ∧ msW U.W r ∈ way6
  nine : 9 ≤ U.N ∧ 9 ≤ U.D ∧ 9 ≤ U.S ∧ 9 ≤ U.W ∧ ∀ i, i < 3 → 9 ≤ U.n i ∧ 9 ≤ U.q i
theorem stabL_ge {c d : Nat → Nat → Int} {W r : Nat} (h : r ∈ stabL c d W) : W ≤ r := by
  have := (List.mem_filter.mp h).1
  rw [List.mem_range'_1] at this
  exact this.1
theorem TY.kp {T : TP} {U : UP} {H H' : CH} {c c' : Nat → Option CV} (k : Kp H H') (Y : TY T U H c) (C : TC T H' c') (e5 : c' 5 = c 5) (e6 : c' 6 = c 6) (e7 : c' 7 = c 7) : TY T U H' c' := by
  obtain ⟨n1, n2, n3, n4, n5⟩ := Y.nine
  exact ⟨Y.B.kp k, C, e5.trans Y.c5, e6.trans Y.c6, e7.trans Y.c7, k.keep _ _ n1 Y.near, fun i hi => k.keep _ _ (n5 i hi).1 (Y.nearj i hi), k.keep _ _ n2 Y.dear, fun i hi => k.keep _ _ (n5 i hi).2 (Y.dearj i hi), k.keep _ _ n3 Y.stab, fun r hr => ⟨k.keep _ _ (by have := stabL_ge hr; (first | lia | omega)) (Y.ways r hr).1, (Y.ways r hr).2⟩, Y.nine⟩
theorem TY.pre {T : TP} {U : UP} {H H' : CH} {c : Nat → Option CV} (p : H <+: H') (Y : TY T U H c) : TY T U H' c := Y.kp (Kp.of_pre p) (Y.C.pre p) rfl rfl rfl
noncomputable def bsO : Expr := asgE (lawS 19)
noncomputable def bsI : Expr := argE 0 (eltE bsO)
noncomputable def bsE (k : Nat) : CE := inE bsO lawE [("i", k), ("stable", 7), ("nearest", 5)]
noncomputable def unloc : CV → Nat
  | .loc n => n
  | _ => 0
theorem get3 {ms : List Int} (h : ms ∈ way6) {i : Nat} (hi : i < 3) : (intL ms)[((i : Nat) : Int).toNat]? = some (.int (ms.getD i 0)) := by
  have := (perm_len h).1
  have hl : i < ms.length := by (first | lia | omega)
  simp [intL, hl]
theorem best_elt {T : TP} {U : UP} {H : CH} {c : Nat → Option CV} {L : CL} {s : St} {m : Nat → Nat} {k i : Nat} (hi : i < 3) (Y : TY T U H c) (F : Fin3 (callC T.x) T.d s m T.w) (hk : H[k]? = some (.cell (some (.int i)))) :
    ∃ Z, Ev (bsE k) L (eltE bsO) H (.int (rkP T.d i (m i) : Nat)) (H ++ Z) := by
  have n5 := Y.C.at_ (k := 5) (by decide) Y.c5
  have n7 := Y.C.at_ (k := 7) (by decide) Y.c7
  let g : Nat → Int := fun r => ((rkP T.d i (mOf (msW U.W r) i) : Nat) : Int)
  let f : CV → CV := fun v => .int (g (unloc v))
  have hl := Y.C.cells.len
  have hz : (stabL (callC T.x) T.d U.W).length ≤ 6 := by unfold stabL; exact Nat.le_trans (List.length_filter_le _ _) (by simp)
  have go := map_go (X := bsI) (E := inE bsI (bsE k) [("nearest", 5), ("i", k)]) (H := H) (m := U.S) (all := (stabL (callC T.x) T.d U.W).map .loc) (f := f) rfl Y.stab (by (first | lia | omega)) (by simp; (first | lia | omega)) (fun v hv L xs => by
    refine ⟨_, bt1 (set_local rfl), ?_⟩
    obtain ⟨r, hr, rfl⟩ := List.mem_map.mp hv
    obtain ⟨t1, t2⟩ := Y.ways r hr
    obtain ⟨w1, w2, w3⟩ := (way_ok t2).1 i hi
    have p := List.prefix_append H [CO.list xs]
    have q := pre_get' p (Y.nearj i hi)
    have mi := (perm_idx (Pl_all (d := T.d) (i := i)).1 w1).2.2
    refine Ev.index (l := Pl T.d i) (i := (mOf (msW U.W r) i : Nat)) rfl rfl rfl ?_ ?_ q (by rw [(perm_len Pl_all.1).1]; decide) mi
    · exact Ev.sub rfl (Ev.name (nm_cell rfl rfl (pre_get' p n5))) (Ev.name (nm_cell rfl rfl (pre_get' p hk))) (gi_list (pre_get' p Y.near) ⟨by (first | lia | omega), by simp⟩ (list3 (a := 0) (b := 0) (c := 0) hi))
    · refine Ev.sub rfl (Ev.name (nm_local rfl lk_eq)) (Ev.name (nm_cell rfl rfl (pre_get' p hk))) (gi_tup (pre_get' p t1) ⟨by (first | lia | omega), by have := (perm_len t2).1; simp [intL]; (first | lia | omega)⟩ ?_)
      rw [← w2]
      exact get3 t2 hi) ((stabL (callC T.x) T.d U.W).map .loc) [] [] rfl
  obtain ⟨x, r, e1, e2⟩ := F.minOf hi
  have eg : ((stabL (callC T.x) T.d U.W).map .loc).map f = intL (x :: r) := by
    rw [← e1, ← stabL_map (callC T.x) T.d U.W, List.map_map, List.map_map]
    unfold intL
    rw [List.map_map]
    rfl
  rw [eg] at go
  have src : Sc (bsE k) L (genI bsI) H (.list U.S 0) H := by
    apply Sc.of
    · rfl
    · exact Ev.name (nm_cell rfl rfl n7)
    · exact it_list Y.stab
  have ev : Ev (bsE k) L bsI H (.loc H.length) (H ++ [.list (intL (x :: r))]) := Ev.listComp rfl src rfl go
  refine ⟨[.list (intL (x :: r))], ?_⟩
  rw [← e2]
  exact Ev.bi (vs := [.loc H.length]) rfl rfl rfl rfl (Es.cons rfl ev Es.nil) (.minL (hp_new0 rfl))
theorem seg_best {T : TP} {U : UP} {H : CH} {c : Nat → Option CV} {L : CL} {s : St} {m : Nat → Nat} (Y : TY T U H c) (F : Fin3 (callC T.x) T.d s m T.w) :
    ∃ (H' : CH) (Q : Nat), Ex lawE (lawS 19) L H .next L H' ∧ Kp H H' ∧ TC T H' (fun i => if i = 8 then some (.loc Q) else c i) ∧ 9 ≤ Q ∧ H'[Q]? = some (.list (intL [(rkP T.d 0 (m 0) : Nat), (rkP T.d 1 (m 1) : Nat), (rkP T.d 2 (m 2) : Nat)])) := by
  have h9 := Y.C.cells.len
  let A : CH := H ++ [.range 0 3 1]
  have lA : A.length = H.length + 1 := by simp [A]
  have pA : H <+: A := List.prefix_append _ _
  obtain ⟨v0, v1, v2, Y2, cm, z0, z1, z2⟩ := three_go (E := bsE (A.length + 1)) (X := bsO) (A := A) (Φ := fun i v _ => v = .int (rkP T.d i (m i) : Nat)) rfl rfl rfl (by (first | lia | omega))
    (fun i v Y Z h => h)
    (fun i hi L xs Y2 => by
      have pB : H <+: A ++ .list xs :: .cell (some (.int i)) :: Y2 := pre_app pA _
      obtain ⟨Z, e1⟩ := best_elt (L := L) (k := A.length + 1) hi (Y.pre pB) F (hp_new rfl)
      have eZ : A ++ .list xs :: .cell (some (.int i)) :: Y2 ++ Z = A ++ .list xs :: .cell (some (.int i)) :: (Y2 ++ Z) := by simp
      rw [eZ] at e1
      exact ⟨Z, _, e1, rfl⟩)
  subst z0 z1 z2
  have env : compEnv (comS bsO) lawE (A ++ [.list []]) = some (bsE ((A ++ [CO.list []]).length), A ++ [.list []] ++ [.cell none]) := rfl
  rw [show (A ++ [CO.list []]).length = A.length + 1 by simp, show A ++ [CO.list []] ++ [CO.cell none] = A ++ .list [] :: [.cell none] by simp] at env
  have ev : Co lawE L bsO H (.loc A.length) _ := Co.list rfl (range_src rfl) env cm
  have p2 : H <+: A ++ .list [.int (rkP T.d 0 (m 0) : Nat), .int (rkP T.d 1 (m 1) : Nat), .int (rkP T.d 2 (m 2) : Nat)] :: .cell (some (.int 2)) :: Y2 := pre_app pA _
  have C2 := Y.C.pre p2
  exact ⟨_, A.length, Ex.setComp rfl ev (set_cell rfl rfl (C2.cells.at_ 8 (by decide) (by decide)) (by decide)), (Kp.of_pre p2).trans (Kp.cell (by decide)), C2.set _ (by decide), by (first | lia | omega), hp_set (by (first | lia | omega)) (hp_new0 rfl)⟩
/-- all that the last loops read -/
structure TZ (T : TP) (U : UP) (m : Nat → Nat) (H : CH) (c : Nat → Option CV) : Prop where
  Y : TY T U H c
  c8 : c 8 = some (.loc U.Q)
  best : H[U.Q]? = some (.list (intL [(rkP T.d 0 (m 0) : Nat), (rkP T.d 1 (m 1) : Nat), (rkP T.d 2 (m 2) : Nat)]))
  n8 : 9 ≤ U.Q
theorem TZ.kp {T : TP} {U : UP} {m : Nat → Nat} {H H' : CH} {c c' : Nat → Option CV} (k : Kp H H') (Z : TZ T U m H c) (C : TC T H' c') (e5 : c' 5 = c 5) (e6 : c' 6 = c 6) (e7 : c' 7 = c 7) (e8 : c' 8 = c 8) : TZ T U m H' c' :=
  ⟨Z.Y.kp k C e5 e6 e7, e8.trans Z.c8, k.keep _ _ Z.n8 Z.best, Z.n8⟩
theorem TZ.pre {T : TP} {U : UP} {m : Nat → Nat} {H H' : CH} {c : Nat → Option CV} (p : H <+: H') (Z : TZ T U m H c) : TZ T U m H' c := Z.kp (Kp.of_pre p) (Z.Y.C.pre p) rfl rfl rfl rfl
theorem best_at {d : Nat → Nat → Int} {m : Nat → Nat} {i : Nat} (hi : i < 3) : (intL [(rkP d 0 (m 0) : Nat), (rkP d 1 (m 1) : Nat), (rkP d 2 (m 2) : Nat)])[((i : Nat) : Int).toNat]? = some (.int (rkP d i (m i) : Nat)) := by
  rcases nat3 hi with rfl | rfl | rfl <;> rfl
/-- the first of the last loops: one turn -/
theorem place_turn {T : TP} {U : UP} {H : CH} {c : Nat → Option CV} {L : CL} {s : St} {m : Nat → Nat} {i : Nat} (hi : i < 3) (Z : TZ T U m H c) (F : Fin3 (callC T.x) T.d s m T.w) (g : L.lookup ("held" : Str) = some (.loc T.aH)) (gi : L.lookup ("i" : Str) = some (.int i)) :
    Exs lawE (forB (lawS 20)) L H .next (L.set "place" (.int (m i : Nat))) (H ++ [.list [.loc (Rr T.n0 i (m i))]]) := by
  have n5 := Z.Y.C.at_ (k := 5) (by decide) Z.Y.c5
  have n8 := Z.Y.C.at_ (k := 8) (by decide) Z.c8
  have n3 := Z.Y.C.at_ (k := 3) (by decide) Z.Y.C.c3
  have m3 := F.S.m3 i hi
  have pi := perm_idx (Pl_all (d := T.d) (i := i)).1 m3
  have s0 : Ex lawE (nth (forB (lawS 20)) 0) L H .next (L.set "place" (.int (m i : Nat))) H := by
    refine Ex.set rfl (Ev.sub rfl (a := .loc (U.n i)) (b := .int (rkP T.d i (m i) : Nat)) (H1 := H) ?_ ?_ (gi_list (Z.Y.nearj i hi) ⟨by (first | lia | omega), by rw [show (intL (Pl T.d i)).length = (Pl T.d i).length by simp [intL], (perm_len Pl_all.1).1]; decide⟩ ?_)) (set_local rfl)
    · exact Ev.sub rfl (Ev.name (nm_cell rfl rfl n5)) (Ev.name (nm_local rfl gi)) (gi_list Z.Y.near ⟨by (first | lia | omega), by simp⟩ (list3 (a := 0) (b := 0) (c := 0) hi))
    · exact Ev.sub rfl (Ev.name (nm_cell rfl rfl n8)) (Ev.name (nm_local rfl gi)) (gi_list Z.best ⟨by (first | lia | omega), by simp [intL]⟩ (best_at hi))
    · rw [Int.toNat_natCast]
      unfold intL rkP
      rw [List.getElem?_map, pi.2.1]
      rfl
  have lp : (L.set "place" (.int (m i : Nat))).lookup ("place" : Str) = some (.int (m i : Nat)) := lk_eq
  have s1 : Ex lawE (nth (forB (lawS 20)) 1) (L.set "place" (.int (m i : Nat))) H .next (L.set "place" (.int (m i : Nat))) (H ++ [.list [.loc (Rr T.n0 i (m i))]]) := by
    refine Ex.ite (z := false) (Ts.cmp (a := .loc (T.h (m i))) (b := .loc H.length) (H1 := H) rfl ?_ ?_ ?_) Exs.nil
    · exact Ev.sub rfl (Ev.name (nm_local rfl (lk_ne (by decide) g))) (Ev.name (nm_local rfl lp)) (gi_list Z.Y.B.held ⟨by (first | lia | omega), by simp⟩ (list3 (a := 0) (b := 0) (c := 0) m3))
    · exact Ev.list (Es.cons rfl (ev_row hi m3 Z.Y.B.rows (nm_cell rfl rfl n3) (Ev.name (nm_local rfl (lk_ne (by decide) gi))) (Ev.name (nm_local rfl lp))) Es.nil) (by simp)
    · have h1 : (H ++ [CO.list [.loc (Rr T.n0 i (m i))]])[T.h (m i)]? = some (.list [.loc (Rr T.n0 i (m i))]) := by
        have := Z.Y.B.heldj (m i) m3
        rw [F.S.wm i hi] at this
        exact hp_app this
      have h2 : (H ++ [CO.list [.loc (Rr T.n0 i (m i))]])[H.length]? = some (.list [.loc (Rr T.n0 i (m i))]) := hp_new0 rfl
      simp only [cmpop, h1, h2, sameObj, List.length_cons, ne_eq, not_true_eq_false, if_false, if_true, Option.map_some, Bool.not_true]
  exact Exs.cons s0 (Exs.cons s1 Exs.nil)
end Mine
end

section
set_option maxRecDepth 100000
set_option linter.unusedVariables false
set_option autoImplicit false
namespace Mine
open PySem
local macro_rules | `(tactic| walk_at "lk") => `(tactic| first | assumption | exact lk_eq | (apply lk_ne (by decide); walk_at "lk") | rfl)
local macro_rules | `(tactic| walk_at "hp") => `(tactic| first | assumption | (apply hp_app; walk_at "hp") | (apply hp_new0; rfl) | (apply hp_new; rfl) | (apply hp_set (by first | decide | (first | lia | omega)); walk_at "hp") | (apply hp_self; walk_at "hp"))
local macro_rules | `(tactic| walk_at "nm") => `(tactic| first | (apply nm_local rfl; walk_at "lk") | (apply nm_cell rfl rfl; walk_at "hp") | (apply nm_free rfl rfl; walk_at "hp") | exact nm_num rfl rfl)
local macro_rules | `(tactic| walk_at "st") => `(tactic| first | exact set_local rfl | (apply set_cell rfl rfl (h0 := by decide); walk_at "hp"))
local macro_rules | `(tactic| walk_at "bt") => `(tactic| first | (apply bt1; walk_at "st") | (apply bt2; walk_at "st"; walk_at "st") | (apply bt3; walk_at "hp"; walk_at "st"; walk_at "st"))
local macro_rules | `(tactic| walk_at "gi") => `(tactic| first | assumption | (apply gi_list; walk_at "hp"; (first | assumption | decide | (simp; done)); (first | assumption | rfl)) | (apply gi_tup; walk_at "hp"; (first | assumption | decide | (simp; done)); (first | assumption | rfl)))
local macro_rules | `(tactic| walk_at "ev") => `(tactic| first
  | exact Ev.int | exact Ev.str | exact Ev.bool | exact Ev.dict0
  | (apply Ev.name; walk_at "nm")
  | (apply Ev.sub rfl; walk_at "ev"; walk_at "ev"; walk_at "gi")
  | (apply Ev.neg; walk_at "ev")
  | (apply Ev.bin; walk_at "ev"; walk_at "ev"; first | assumption | rfl)
  | (apply Ev.cmp rfl; walk_at "ev"; walk_at "ev"; first | assumption | rfl))
local macro_rules | `(tactic| walk_at "ts") => `(tactic| first
  | (apply Ts.cmp rfl; walk_at "ev"; walk_at "ev"; first | assumption | rfl))
local macro_rules | `(tactic| walk_at "ex") => `(tactic| first
  | (apply Ex.set rfl; walk_at "ev"; walk_at "st")
  | (apply Ex.ret; walk_at "ev") | exact Ex.brk)

theorem seg_place {T : TP} {U : UP} {H : CH} {c : Nat → Option CV} {L : CL} {s : St} {m : Nat → Nat} (Z : TZ T U m H c) (F : Fin3 (callC T.x) T.d s m T.w) (g : L.lookup ("held" : Str) = some (.loc T.aH)) :
    ∃ (H' : CH) (L' : CL), Ex lawE (lawS 20) L H .next L' H' ∧ H <+: H' ∧ ∀ y : Str, y ≠ "i" → y ≠ "place" → L'.lookup y = L.lookup y := by
  have p1 := List.prefix_append H [CO.range 0 3 1]
  have t0 := place_turn (L := L.set "i" (.int 0)) (i := 0) (by decide) (Z.pre p1) F (lk_ne (by decide) g) lk_eq
  have p2 := pre_app p1 [.list [.loc (Rr T.n0 0 (m 0))]]
  have t1 := place_turn (L := ((L.set "i" (.int 0)).set "place" (.int (m 0 : Nat))).set "i" (.int 1)) (i := 1) (by decide) (Z.pre p2) F (lk_ne (by decide) (lk_ne (by decide) (lk_ne (by decide) g))) lk_eq
  have p3 := pre_app p2 [.list [.loc (Rr T.n0 1 (m 1))]]
  have t2 := place_turn (L := ((((L.set "i" (.int 0)).set "place" (.int (m 0 : Nat))).set "i" (.int 1)).set "place" (.int (m 1 : Nat))).set "i" (.int 2)) (i := 2) (by decide) (Z.pre p3) F (lk_ne (by decide) (lk_ne (by decide) (lk_ne (by decide) (lk_ne (by decide) (lk_ne (by decide) g))))) lk_eq
  have p4 := pre_app p3 [.list [.loc (Rr T.n0 2 (m 2))]]
  refine ⟨_, _, Ex.for_ (range_src rfl) (Fr_.next (it' := .range 1 1 2) rfl (bt1 (set_local rfl)) t0 (Fr_.next (it' := .range 2 1 1) rfl (bt1 (set_local rfl)) t1 (Fr_.next (it' := .range 3 1 0) rfl (bt1 (set_local rfl)) t2 (Fr_.done rfl)))), p4, fun y h1 h2 => ?_⟩
  rw [CL.lookup_set, if_neg h2, CL.lookup_set, if_neg h1, CL.lookup_set, if_neg h2, CL.lookup_set, if_neg h1, CL.lookup_set, if_neg h2, CL.lookup_set, if_neg h1]
noncomputable def wrX : Expr := asgE (nth (forB (lawS 21)) 0)
noncomputable def wrI : Expr := argE 0 wrX
noncomputable def cmpR (e : Expr) : Expr := (exAll e).1.getD 1 dumX
noncomputable def wdX : Expr := cmpR (ifE (nth (forB (lawS 21)) 2))
noncomputable def wdE : CE := inE wdX lawE [("nearest", 5), ("j", 4), ("best", 8)]
theorem ones_none {i : Int} : ∀ {l : List Nat}, (∀ a ∈ l, (a : Int) ≠ i) → (onesL l).lookup i = none
  | [], _ => rfl
  | a :: l, h => by
    unfold onesL
    rw [List.map_cons, List.lookup_cons, show (i == (a : Int)) = false by simpa using (h a (.head _)).symm]
    exact ones_none fun b hb => h b (.tail _ hb)
theorem ones_some {i : Nat} : ∀ {l : List Nat}, i ∈ l → (onesL l).lookup (i : Int) = some 1
  | a :: l, h => by
    unfold onesL
    rw [List.map_cons, List.lookup_cons]
    by_cases e : i = a
    · subst e; simp
    · rw [show ((i : Int) == (a : Int)) = false by simp; (first | lia | omega)]
      exact ones_some (by cases h with | head => exact absurd rfl e | tail _ h => exact h)
theorem same_ones {a b : List Nat} (ha : a.Nodup) (hb : b.Nodup) (h : ∀ i, i ∈ a ↔ i ∈ b) : sameTable (onesL a) (onesL b) = true := by
  have l1 := List.Nodup.length_le_of_subset ha (fun i hi => (h i).mp hi : a ⊆ b)
  have l2 := List.Nodup.length_le_of_subset hb (fun i hi => (h i).mpr hi : b ⊆ a)
  unfold sameTable
  rw [Bool.and_eq_true]
  refine ⟨by simp [onesL]; (first | lia | omega), ?_⟩
  rw [List.all_eq_true]
  intro p hp
  obtain ⟨i, hi, rfl⟩ := List.mem_map.mp hp
  have := ones_some ((h i).mp hi)
  simpa using this
theorem ask_go {T : TP} {U : UP} {A : CH} {c : Nat → Option CV} {m : Nat → Nat} {j : Nat} (hj : j < 3) (Z : TZ T U m A c) (c4 : c 4 = some (.int j)) :
    ∀ (left i : Nat) (got : List Nat) (ep : Nat) (L : CL), i + left = 3 → (∀ a ∈ got, a < i) → got.length ≤ i → ∃ ep', Cm wdE wdX (.range (i : Int) 1 left) A.length L (A ++ [.dict (onesL got) ep]) (A ++ [.dict (onesL (got ++ (List.range' i left).filter fun i => decide (rkP T.d i j ≤ rkP T.d i (m i)))) ep'])
  | 0, i, got, ep, L, e, h, hz => ⟨ep, by
    rw [show got ++ (List.range' i 0).filter (fun i => decide (rkP T.d i j ≤ rkP T.d i (m i))) = got by simp]
    exact Cm.doneD rfl rfl⟩
  | left + 1, i, got, ep, L, e, h, hz => by
    have hi : i < 3 := by (first | lia | omega)
    have h9 := Z.Y.C.cells.len
    have p := List.prefix_append A [CO.dict (onesL got) ep]
    have Z2 := Z.pre p
    have n5 := Z2.Y.C.at_ (k := 5) (by decide) Z2.Y.c5
    have n8 := Z2.Y.C.at_ (k := 8) (by decide) Z2.c8
    have n4 := Z2.Y.C.at_ (k := 4) (by decide) c4
    have q := Z2.Y.nearj i hi
    have mj := (perm_idx (Pl_all (d := T.d) (i := i)).1 hj).2.2
    have test : Tst wdE (L.set "i" (.int i)) (ifsE wdX) (A ++ [.dict (onesL got) ep]) (decide (rkP T.d i j ≤ rkP T.d i (m i))) (A ++ [.dict (onesL got) ep]) := by
      show Ts _ _ _ _ _ _
      refine Ts.cmp (a := .int (rkP T.d i j : Nat)) (b := .int (rkP T.d i (m i) : Nat)) (H1 := A ++ [.dict (onesL got) ep]) rfl ?_ ?_ ?_
      · exact Ev.index (l := Pl T.d i) rfl rfl rfl (Ev.sub rfl (Ev.name (nm_cell rfl rfl n5)) (Ev.name (nm_local rfl lk_eq)) (gi_list Z2.Y.near ⟨by (first | lia | omega), by simp⟩ (list3 (a := 0) (b := 0) (c := 0) hi))) (Ev.name (nm_cell rfl rfl n4)) q (by rw [(perm_len Pl_all.1).1]; decide) mj
      · exact Ev.sub rfl (Ev.name (nm_cell rfl rfl n8)) (Ev.name (nm_local rfl lk_eq)) (gi_list Z2.best ⟨by (first | lia | omega), by simp [intL]⟩ (best_at hi))
      · simp only [cmpop, Int.ofNat_le]
    have ht : turn (.range (i : Int) 1 (left + 1)) (A ++ [.dict (onesL got) ep]) = some (some ([.int i], .range ((i + 1 : Nat) : Int) 1 left)) := rfl
    cases hb : decide (rkP T.d i j ≤ rkP T.d i (m i)) with
    | true =>
      rw [hb] at test
      obtain ⟨ep', key⟩ := ask_go hj Z c4 left (i + 1) (got ++ [i]) (ep + 1) (L.set "i" (.int i)) (by (first | lia | omega)) (fun a ha => by
        rcases List.mem_append.mp ha with ha | ha
        · have := h a ha; (first | lia | omega)
        · have := List.mem_singleton.mp ha; (first | lia | omega)) (by simp; (first | lia | omega))
      refine ⟨ep', ?_⟩
      rw [List.range'_succ, List.filter_cons_of_pos (p := fun i => decide (rkP T.d i j ≤ rkP T.d i (m i))) hb]
      rw [List.append_assoc] at key
      have hs : (A ++ [CO.dict (onesL got) ep]).set A.length (.dict (onesL got ++ [((i : Int), 1)]) (ep + 1)) = A ++ [.dict (onesL (got ++ [i])) (ep + 1)] := by simp [onesL]
      refine Cm.addD ht (bt1 (set_local rfl)) test (Es.cons rfl (Ev.name (nm_local rfl lk_eq)) (Es.cons rfl Ev.int Es.nil)) (hp_new0 rfl) ⟨by (first | lia | omega), by (first | lia | omega), by (first | lia | omega), by simp [onesL]; (first | lia | omega), ?_⟩ ?_
      · rw [ones_none fun a ha => by have := h a ha; (first | lia | omega)]; rfl
      · rw [hs]; exact key
    | false =>
      rw [hb] at test
      obtain ⟨ep', key⟩ := ask_go hj Z c4 left (i + 1) got ep (L.set "i" (.int i)) (by (first | lia | omega)) (fun a ha => by have := h a ha; (first | lia | omega)) (by (first | lia | omega))
      refine ⟨ep', ?_⟩
      rw [List.range'_succ, List.filter_cons_of_neg (p := fun i => decide (rkP T.d i j ≤ rkP T.d i (m i))) (by rw [hb]; simp)]
      exact Cm.skipD ht (bt1 (set_local rfl)) test key
/-- the second of the last loops: one turn -/
theorem worst_turn {T : TP} {U : UP} {H : CH} {c : Nat → Option CV} {L : CL} {s : St} {m : Nat → Nat} {j : Nat} (hj : j < 3) (Z0 : TZ T U m H c) (F : Fin3 (callC T.x) T.d s m T.w) (I : Inv (callC T.x) T.d s) (hak : T.ak = s.ak) (g : L.lookup ("held" : Str) = some (.loc T.aH)) (ga : L.lookup ("asked" : Str) = some (.loc T.aK)) :
    ∃ H', Exs lawE (forB (lawS 21)) L (H.set 4 (.cell (some (.int j)))) .next (L.set "worst" (.int (rkQ (callC T.x) T.d j (T.w j) : Nat))) H' ∧ TZ T U m H' (fun i => if i = 4 then some (.int j) else c i) := by
  have C4 := Z0.Y.C.set (k := 4) (some (.int j)) (by decide)
  have Z := Z0.kp (Kp.cell (by decide)) C4 rfl rfl rfl rfl
  generalize H.set 4 (.cell (some (.int j))) = H4 at C4 Z
  have hl := C4.cells.len
  have n4 := C4.at_ (k := 4) (v := .int j) (by decide) (if_pos rfl)
  have n6 := C4.at_ (k := 6) (by decide) Z.Y.c6
  have n7 := C4.at_ (k := 7) (by decide) Z.Y.c7
  have w3 := F.S.w3 j hj
  let gq : Nat → Int := fun r => ((rkQ (callC T.x) T.d j (wOf (msW U.W r) j) : Nat) : Int)
  let f : CV → CV := fun v => .int (gq (unloc v))
  have hz : (stabL (callC T.x) T.d U.W).length ≤ 6 := by unfold stabL; exact Nat.le_trans (List.length_filter_le _ _) (by simp)
  have go := map_go (X := wrI) (E := inE wrI lawE [("j", 4), ("dearest", 6)]) (H := H4) (m := U.S) (all := (stabL (callC T.x) T.d U.W).map .loc) (f := f) rfl Z.Y.stab (by (first | lia | omega)) (by simp; (first | lia | omega)) (fun v hv L xs => by
    refine ⟨_, bt1 (set_local rfl), ?_⟩
    obtain ⟨r, hr, rfl⟩ := List.mem_map.mp hv
    obtain ⟨t1, t2⟩ := Z.Y.ways r hr
    have p := List.prefix_append H4 [CO.list xs]
    have q := pre_get' p (Z.Y.dearj j hj)
    have wj := ((way_ok t2).2 j hj).1
    have mi := (perm_idx (Ql_all (c := callC T.x) (d := T.d) (j := j)).1 wj).2.2
    obtain ⟨l3, _⟩ := perm_len t2
    obtain ⟨a, b, e, hms⟩ : ∃ a b c, msW U.W r = [a, b, c] := by
      rcases hq : msW U.W r with _ | ⟨a, _ | ⟨b, _ | ⟨c, _ | ⟨_, _⟩⟩⟩⟩ <;> rw [hq] at l3 <;> simp at l3
      exact ⟨a, b, c, rfl⟩
    have t1' := pre_get' p t1
    rw [hms] at t1'
    have jm : ((j : Nat) : Int) ∈ [a, b, e] := by rw [← hms]; exact (perm_idx t2 hj).2.2
    refine Ev.index (l := Ql (callC T.x) T.d j) (i := (wOf (msW U.W r) j : Nat)) rfl rfl rfl ?_ ?_ q (by rw [(perm_len Ql_all.1).1]; decide) mi
    · exact Ev.sub rfl (Ev.name (nm_cell rfl rfl (pre_get' p n6))) (Ev.name (nm_cell rfl rfl (pre_get' p n4))) (gi_list (pre_get' p Z.Y.dear) ⟨by (first | lia | omega), by simp⟩ (list3 (a := 0) (b := 0) (c := 0) hj))
    · unfold wOf
      rw [hms]
      exact Ev.indexT rfl rfl rfl (Ev.name (nm_local rfl lk_eq)) (Ev.name (nm_cell rfl rfl (pre_get' p n4))) t1' jm) ((stabL (callC T.x) T.d U.W).map .loc) [] [] rfl
  obtain ⟨x, r, e1, e2⟩ := F.maxOf hj
  have eg : ((stabL (callC T.x) T.d U.W).map .loc).map f = intL (x :: r) := by
    rw [← e1, ← stabL_map (callC T.x) T.d U.W, List.map_map, List.map_map]
    unfold intL
    rw [List.map_map]
    rfl
  rw [eg] at go
  have src : Sc lawE L (genI wrI) H4 (.list U.S 0) H4 := by
    apply Sc.of
    · rfl
    · exact Ev.name (nm_cell rfl rfl n7)
    · exact it_list Z.Y.stab
  have ev : Ev lawE L wrI H4 (.loc H4.length) (H4 ++ [.list (intL (x :: r))]) := Ev.listComp rfl src rfl go
  have s0 : Ex lawE (nth (forB (lawS 21)) 0) L H4 .next (L.set "worst" (.int (rkQ (callC T.x) T.d j (T.w j) : Nat))) (H4 ++ [.list (intL (x :: r))]) := by
    refine Ex.set rfl ?_ (set_local rfl)
    rw [← e2]
    exact Ev.bi (vs := [.loc H4.length]) rfl rfl rfl rfl (Es.cons rfl ev Es.nil) (.maxL (hp_new0 rfl))
  have p5 := List.prefix_append H4 [CO.list (intL (x :: r))]
  have Z5 := Z.pre p5
  have C5 := C4.pre p5
  generalize H4 ++ [CO.list (intL (x :: r))] = H5 at s0 p5 Z5 C5
  have m4 := C5.at_ (k := 4) (v := .int j) (by decide) (if_pos rfl)
  have m6 := C5.at_ (k := 6) (by decide) Z5.Y.c6
  obtain ⟨LW, hLW⟩ : ∃ LW, L.set "worst" (.int (rkQ (callC T.x) T.d j (T.w j) : Nat)) = LW := ⟨_, rfl⟩
  have gw : LW.lookup ("worst" : Str) = some (.int (rkQ (callC T.x) T.d j (T.w j) : Nat)) := by rw [← hLW]; exact lk_eq
  have gh : LW.lookup ("held" : Str) = some (.loc T.aH) := by rw [← hLW]; exact lk_ne (by decide) g
  have gk : LW.lookup ("asked" : Str) = some (.loc T.aK) := by rw [← hLW]; exact lk_ne (by decide) ga
  have qi := perm_idx (Ql_all (c := callC T.x) (d := T.d) (j := j)).1 w3
  have s1 : Ex lawE (nth (forB (lawS 21)) 1) LW H5 .next LW H5 := by
    refine Ex.ite (z := false) (Ts.cmp (a := .int (T.w j : Nat)) (b := .int (T.w j : Nat)) (H1 := H5) rfl ?_ ?_ ?_) Exs.nil
    · refine Ev.sub rfl (a := .loc (Rr T.n0 (T.w j) j)) (H1 := H5) (Ev.sub rfl (a := .loc (T.h j)) (H1 := H5) ?_ Ev.int (gi_list (Z5.Y.B.heldj j hj) ⟨by decide, by simp⟩ rfl)) Ev.int (gi_tup (Z5.Y.B.row _ _ w3 hj) ⟨by decide, by simp [intL, rowV]⟩ rfl)
      exact Ev.sub rfl (Ev.name (nm_local rfl gh)) (Ev.name (nm_cell rfl rfl m4)) (gi_list Z5.Y.B.held ⟨by (first | lia | omega), by simp⟩ (list3 (a := 0) (b := 0) (c := 0) hj))
    · refine Ev.sub rfl (a := .loc (U.q j)) (H1 := H5) (Ev.sub rfl (Ev.name (nm_cell rfl rfl m6)) (Ev.name (nm_cell rfl rfl m4)) (gi_list Z5.Y.dear ⟨by (first | lia | omega), by simp⟩ (list3 (a := 0) (b := 0) (c := 0) hj))) (Ev.name (nm_local rfl gw)) (gi_list (Z5.Y.dearj j hj) ⟨by (first | lia | omega), by rw [show (intL (Ql (callC T.x) T.d j)).length = (Ql (callC T.x) T.d j).length by simp [intL], (perm_len Ql_all.1).1]; decide⟩ ?_)
      rw [Int.toNat_natCast]
      unfold intL rkQ
      rw [List.getElem?_map, qi.2.1]
      rfl
    · simp only [cmpop, ne_eq, not_true_eq_false, decide_false]
  let A : CH := H5 ++ [.range 0 3 1]
  have pA : H5 <+: A := List.prefix_append _ _
  obtain ⟨ep', cm⟩ := ask_go (A := A) hj (Z5.pre pA) (if_pos rfl) 3 0 [] 0 [] rfl (by simp) (by simp)
  have evD : Ev lawE LW wdX H5 (.loc A.length) _ := Ev.dictComp rfl (range_src rfl) (rfl : compEnv (comS wdX) lawE (A ++ [.dict [] 0]) = some (wdE, A ++ [.dict [] 0])) cm
  rw [List.nil_append] at evD
  have s2 : Ex lawE (nth (forB (lawS 21)) 2) LW H5 .next LW (A ++ [.dict (onesL ((List.range' 0 3).filter fun i => decide (rkP T.d i j ≤ rkP T.d i (m i)))) ep']) := by
    refine Ex.ite (z := false) (Ts.cmp (a := .loc (T.k j)) (b := .loc A.length) (H1 := H5) rfl ?_ evD ?_) Exs.nil
    · exact Ev.sub rfl (Ev.name (nm_local rfl gk)) (Ev.name (nm_cell rfl rfl m4)) (gi_list Z5.Y.B.asked ⟨by (first | lia | omega), by simp⟩ (list3 (a := 0) (b := 0) (c := 0) hj))
    · have h1 : (A ++ [CO.dict (onesL ((List.range' 0 3).filter fun i => decide (rkP T.d i j ≤ rkP T.d i (m i)))) ep'])[T.k j]? = some (.dict (onesL (T.ak j)) (T.ep j)) := hp_app (pre_get' pA (Z5.Y.B.askj j hj))
      have h2 : (A ++ [CO.dict (onesL ((List.range' 0 3).filter fun i => decide (rkP T.d i j ≤ rkP T.d i (m i)))) ep'])[A.length]? = some (.dict (onesL ((List.range' 0 3).filter fun i => decide (rkP T.d i j ≤ rkP T.d i (m i)))) ep') := hp_new0 rfl
      obtain ⟨nd, mem⟩ := I.and_ j hj
      have same : sameTable (onesL (T.ak j)) (onesL ((List.range' 0 3).filter fun i => decide (rkP T.d i j ≤ rkP T.d i (m i)))) = true := by
        rw [hak]
        refine same_ones nd (List.Nodup.sublist List.filter_sublist (by decide)) fun i => ?_
        rw [mem i, List.mem_filter, List.mem_range'_1, decide_eq_true_eq]
        constructor
        · rintro ⟨a, b⟩; exact ⟨by (first | lia | omega), (F.rank a hj).mp b⟩
        · rintro ⟨a, b⟩; exact ⟨by (first | lia | omega), (F.rank (by (first | lia | omega)) hj).mpr b⟩
      simp only [cmpop, h1, h2, sameObj, same, if_true, Option.map_some, Bool.not_true]
  exact ⟨_, by rw [hLW] at s0 ⊢; exact Exs.cons s0 (Exs.cons s1 (Exs.cons s2 Exs.nil)), (Z5.pre pA).pre (List.prefix_append _ _)⟩
end Mine
end

section
set_option maxRecDepth 100000
set_option linter.unusedVariables false
set_option autoImplicit false
namespace Mine
open PySem
local macro_rules | `(tactic| walk_at "lk") => `(tactic| first | assumption | exact lk_eq | (apply lk_ne (by decide); walk_at "lk") | rfl)
local macro_rules | `(tactic| walk_at "hp") => `(tactic| first | assumption | (apply hp_app; walk_at "hp") | (apply hp_new0; rfl) | (apply hp_new; rfl) | (apply hp_set (by first | decide | (first | lia | omega)); walk_at "hp") | (apply hp_self; walk_at "hp"))
local macro_rules | `(tactic| walk_at "nm") => `(tactic| first | (apply nm_local rfl; walk_at "lk") | (apply nm_cell rfl rfl; walk_at "hp") | (apply nm_free rfl rfl; walk_at "hp") | exact nm_num rfl rfl)
local macro_rules | `(tactic| walk_at "st") => `(tactic| first | exact set_local rfl | (apply set_cell rfl rfl (h0 := by decide); walk_at "hp"))
local macro_rules | `(tactic| walk_at "bt") => `(tactic| first | (apply bt1; walk_at "st") | (apply bt2; walk_at "st"; walk_at "st") | (apply bt3; walk_at "hp"; walk_at "st"; walk_at "st"))
local macro_rules | `(tactic| walk_at "gi") => `(tactic| first | assumption | (apply gi_list; walk_at "hp"; (first | assumption | decide | (simp; done)); (first | assumption | rfl)) | (apply gi_tup; walk_at "hp"; (first | assumption | decide | (simp; done)); (first | assumption | rfl)))
local macro_rules | `(tactic| walk_at "ev") => `(tactic| first
  | exact Ev.int | exact Ev.str | exact Ev.bool | exact Ev.dict0
  | (apply Ev.name; walk_at "nm")
  | (apply Ev.sub rfl; walk_at "ev"; walk_at "ev"; walk_at "gi")
  | (apply Ev.neg; walk_at "ev")
  | (apply Ev.bin; walk_at "ev"; walk_at "ev"; first | assumption | rfl)
  | (apply Ev.cmp rfl; walk_at "ev"; walk_at "ev"; first | assumption | rfl))
local macro_rules | `(tactic| walk_at "ts") => `(tactic| first
  | (apply Ts.cmp rfl; walk_at "ev"; walk_at "ev"; first | assumption | rfl))
local macro_rules | `(tactic| walk_at "ex") => `(tactic| first
  | (apply Ex.set rfl; walk_at "ev"; walk_at "st")
  | (apply Ex.ret; walk_at "ev") | exact Ex.brk)

theorem seg_worst {T : TP} {U : UP} {H : CH} {c : Nat → Option CV} {L : CL} {s : St} {m : Nat → Nat} (Z : TZ T U m H c) (F : Fin3 (callC T.x) T.d s m T.w) (I : Inv (callC T.x) T.d s) (hak : T.ak = s.ak) (g : L.lookup ("held" : Str) = some (.loc T.aH)) (ga : L.lookup ("asked" : Str) = some (.loc T.aK)) :
    ∃ (H' : CH) (L' : CL) (c' : Nat → Option CV), Ex lawE (lawS 21) L H .next L' H' ∧ TZ T U m H' c' ∧ ∀ y : Str, y ≠ "worst" → L'.lookup y = L.lookup y := by
  have p1 := List.prefix_append H [CO.range 0 3 1]
  have Z1 := Z.pre p1
  obtain ⟨Ha, a1, Za⟩ := worst_turn (L := L) (j := 0) (by decide) Z1 F I hak g ga
  obtain ⟨La, hLa⟩ : ∃ La, L.set "worst" (.int (rkQ (callC T.x) T.d 0 (T.w 0) : Nat)) = La := ⟨_, rfl⟩
  rw [hLa] at a1
  have ka : ∀ y : Str, y ≠ "worst" → La.lookup y = L.lookup y := fun y hy => by rw [← hLa, CL.lookup_set, if_neg hy]
  obtain ⟨Hb, b1, Zb⟩ := worst_turn (L := La) (j := 1) (by decide) Za F I hak (by rw [ka _ (by decide)]; exact g) (by rw [ka _ (by decide)]; exact ga)
  obtain ⟨Lb, hLb⟩ : ∃ Lb, La.set "worst" (.int (rkQ (callC T.x) T.d 1 (T.w 1) : Nat)) = Lb := ⟨_, rfl⟩
  rw [hLb] at b1
  have kb : ∀ y : Str, y ≠ "worst" → Lb.lookup y = L.lookup y := fun y hy => by rw [← hLb, CL.lookup_set, if_neg hy, ka y hy]
  obtain ⟨Hc, c1, Zc⟩ := worst_turn (L := Lb) (j := 2) (by decide) Zb F I hak (by rw [kb _ (by decide)]; exact g) (by rw [kb _ (by decide)]; exact ga)
  refine ⟨Hc, _, _, Ex.for_ (range_src rfl) (Fr_.next (it' := .range 1 1 2) rfl (bt1 (set_cell rfl rfl (Z1.Y.C.cells.at_ 4 (by decide) (by decide)) (by decide))) a1 (Fr_.next (it' := .range 2 1 1) rfl (bt1 (set_cell rfl rfl (Za.Y.C.cells.at_ 4 (by decide) (by decide)) (by decide))) b1 (Fr_.next (it' := .range 3 1 0) rfl (bt1 (set_cell rfl rfl (Zb.Y.C.cells.at_ 4 (by decide) (by decide)) (by decide))) c1 (Fr_.done rfl)))), Zc, fun y hy => ?_⟩
  rw [CL.lookup_set, if_neg hy, kb y hy]
theorem ones_sum : ∀ l : List Nat, ((onesL l).map (·.2)).sum = (l.length : Int)
  | [] => rfl
  | a :: l => by
    have := ones_sum l
    unfold onesL at this ⊢
    rw [List.map_cons, List.map_cons, List.sum_cons, this, List.length_cons]
    (first | lia | omega)
noncomputable def ccX : Expr := argE 0 (cmpL (retE (lawS 22)))
theorem seg_ret {T : TP} {U : UP} {H : CH} {c : Nat → Option CV} {L : CL} {s : St} {m : Nat → Nat} (Z : TZ T U m H c) (F : Fin3 (callC T.x) T.d s m T.w) (I : Inv (callC T.x) T.d s) (hak : T.ak = s.ak) (ga : L.lookup ("asked" : Str) = some (.loc T.aK)) (gn : L.lookup ("asks" : Str) = some (.int s.n)) :
    ∃ H', Ex lawE (lawS 22) L H (.ret (.bool true)) L H' := by
  have hl := Z.Y.C.cells.len
  let f : CV → CV := fun v => match H[unloc v]? with
    | some (.dict kvs _) => .int (kvs.map (·.2)).sum
    | _ => v
  have f3 : ∀ j, j < 3 → f (.loc (T.k j)) = .int ((s.ak j).length : Nat) := fun j hj => by
    have e := Z.Y.B.askj j hj
    simp only [f, unloc, e]
    rw [ones_sum, hak]
  have len : ∀ j, j < 3 → (s.ak j).length ≤ 3 := fun j hj => nodup_le3 (I.and_ j hj).1 fun i hi => (((I.and_ j hj).2 i).mp hi).1
  have go := map_go (X := ccX) (E := inE ccX lawE []) (H := H) (m := T.aK) (all := [.loc (T.k 0), .loc (T.k 1), .loc (T.k 2)]) (f := f) rfl Z.Y.B.asked (by (first | lia | omega)) (by simp) (fun v hv L xs => by
    refine ⟨_, bt1 (set_local rfl), ?_⟩
    obtain ⟨j, hj, rfl⟩ : ∃ j, j < 3 ∧ v = .loc (T.k j) := by
      simp only [List.mem_cons, List.not_mem_nil, or_false] at hv
      rcases hv with rfl | rfl | rfl
      · exact ⟨0, by decide, rfl⟩
      · exact ⟨1, by decide, rfl⟩
      · exact ⟨2, by decide, rfl⟩
    rw [f3 j hj]
    have run := cnt_run (lv := 5) (H := H ++ [.list xs]) (a := T.k j) (hp_app (Z.Y.B.askj j hj)) (by rw [hak]; have := len j hj; simp [onesL]; (first | lia | omega))
    rw [ones_sum, hak] at run
    exact Ev.fn (g := cntF) rfl rfl rfl (Es.cons rfl (Ev.name (nm_local rfl lk_eq)) Es.nil) run) [.loc (T.k 0), .loc (T.k 1), .loc (T.k 2)] [] [] rfl
  have eg : ([.loc (T.k 0), .loc (T.k 1), .loc (T.k 2)] : List CV).map f = intL [((s.ak 0).length : Nat), ((s.ak 1).length : Nat), ((s.ak 2).length : Nat)] := by
    simp only [List.map_cons, List.map_nil, intL, f3 0 (by decide), f3 1 (by decide), f3 2 (by decide)]
  rw [eg] at go
  have src : Sc lawE L (genI ccX) H (.list T.aK 0) H := by
    apply Sc.of
    · rfl
    · exact Ev.name (nm_local rfl ga)
    · exact it_list Z.Y.B.asked
  have ev : Ev lawE L ccX H (.loc H.length) (H ++ [.list (intL [((s.ak 0).length : Nat), ((s.ak 1).length : Nat), ((s.ak 2).length : Nat)])]) := Ev.listComp rfl src rfl go
  have p := List.prefix_append H [CO.list (intL [((s.ak 0).length : Nat), ((s.ak 1).length : Nat), ((s.ak 2).length : Nat)])]
  have Z2 := Z.pre p
  have gJ : (H ++ [CO.list (intL [((s.ak 0).length : Nat), ((s.ak 1).length : Nat), ((s.ak 2).length : Nat)])])[H.length]? = some (.list (intL [((s.ak 0).length : Nat), ((s.ak 1).length : Nat), ((s.ak 2).length : Nat)])) := hp_new0 rfl
  generalize H ++ [CO.list (intL [((s.ak 0).length : Nat), ((s.ak 1).length : Nat), ((s.ak 2).length : Nat)])] = J at ev Z2 gJ
  have n8 := Z2.Y.C.at_ (k := 8) (by decide) Z2.c8
  have l0 := len 0 (by decide)
  have l1 := len 1 (by decide)
  have l2 := len 2 (by decide)
  have b0 : rkP T.d 0 (m 0) < 3 := (perm_idx Pl_all.1 (F.S.m3 0 (by decide))).1
  have b1 : rkP T.d 1 (m 1) < 3 := (perm_idx Pl_all.1 (F.S.m3 1 (by decide))).1
  have b2 : rkP T.d 2 (m 2) < 3 := (perm_idx Pl_all.1 (F.S.m3 2 (by decide))).1
  have cnt := I.cnt
  have tot := F.total I
  refine ⟨_, Ex.ret (Ev.cmp2 (a := .int s.n) (b := .int s.n) (c := .int s.n) (H1 := J) (H2 := J) (H3 := J) rfl rfl ?_ ?_ ?_ (Ev.name (nm_local rfl gn)) ?_)⟩
  · have := BiS.sum gJ ⟨by simp, by simp; (first | lia | omega)⟩
    rw [show ([((s.ak 0).length : Int), ((s.ak 1).length : Nat), ((s.ak 2).length : Nat)] : List Int).sum = (s.n : Int) by simp; (first | lia | omega)] at this
    exact Ev.bi (vs := [.loc H.length]) rfl rfl rfl rfl (Es.cons rfl ev Es.nil) this
  · refine Ev.bin (a := .int (rkP T.d 0 (m 0) + (rkP T.d 1 (m 1) + rkP T.d 2 (m 2)) : Nat)) (b := .int 3) (H1 := J) (H2 := J) (Ev.bi (vs := [.loc U.Q]) rfl rfl rfl rfl (Es.cons rfl (Ev.name (nm_cell rfl rfl n8)) Es.nil) ?_) Ev.int ?_
    · have := BiS.sum Z2.best ⟨by simp, by simp; (first | lia | omega)⟩
      rw [show ([(rkP T.d 0 (m 0) : Int), (rkP T.d 1 (m 1) : Nat), (rkP T.d 2 (m 2) : Nat)] : List Int).sum = ((rkP T.d 0 (m 0) + (rkP T.d 1 (m 1) + rkP T.d 2 (m 2)) : Nat) : Int) by simp] at this
      exact this
    · simp only [binop]
      rw [show ((rkP T.d 0 (m 0) + (rkP T.d 1 (m 1) + rkP T.d 2 (m 2)) : Nat) : Int) + 3 = (s.n : Int) by (first | lia | omega)]
  · simp only [cmpop, decide_true]
  · simp only [cmpop, decide_true]
theorem tail_run {T : TP} {H : CH} {c : Nat → Option CV} {L : CL} {s : St} {m : Nat → Nat} (B : TB T H) (C : TC T H c) (F : Fin3 (callC T.x) T.d s m T.w) (I : Inv (callC T.x) T.d s) (hak : T.ak = s.ak) (g : L.lookup ("held" : Str) = some (.loc T.aH)) (ga : L.lookup ("asked" : Str) = some (.loc T.aK)) (gn : L.lookup ("asks" : Str) = some (.int s.n)) :
    ∃ L' H', Exs lawE [lawS 14, lawS 15, lawS 16, lawS 17, lawS 18, lawS 19, lawS 20, lawS 21, lawS 22] L H (.ret (.bool true)) L' H' := by
  obtain ⟨H1, N, n, x1, k1, C1, N9, gN, gn'⟩ := seg_nearest (L := L) B C
  obtain ⟨H2, L2, c2, D, q, x2, k2, C2, e5, e6, D9, gD, gq, kL⟩ := seg_dearest (L := L) (B.kp k1) C1
  have e5 : c2 5 = some (.loc N) := e5.trans (if_pos rfl)
  have x3 := seg_ways (H := H2) (L := L2)
  have p3 : H2 <+: wayH H2 := List.prefix_append _ _
  have k3 : Kp H2 (wayH H2) := Kp.of_pre p3
  have C3 := C2.pre p3
  have h9 := C2.cells.len
  have gW : (wayH H2)[H2.length + 6]? = some (.list ((List.range' H2.length 6).map .loc)) := hp_new (k := 6) rfl
  have gN3 := k3.keep _ _ N9 (k2.keep _ _ N9 gN)
  have gn3 : ∀ i, i < 3 → (wayH H2)[n i]? = some (.list (intL (Pl T.d i))) := fun i hi => k3.keep _ _ (gn' i hi).1 (k2.keep _ _ (gn' i hi).1 (gn' i hi).2)
  have gD3 := k3.keep _ _ D9 gD
  have gq3 : ∀ j, j < 3 → (wayH H2)[q j]? = some (.list (intL (Ql (callC T.x) T.d j))) := fun j hj => k3.keep _ _ (gq j hj).1 (gq j hj).2
  have tabs : TabsAt (wayH H2) N D (Pl T.d) (Ql (callC T.x) T.d) := ⟨⟨n, q, gN3, gD3, gn3, gq3⟩, fun i hi => by
      obtain ⟨a, _, b⟩ := perm_len (Pl_all (d := T.d) (i := i)).1
      exact ⟨by (first | lia | omega), b⟩, fun j hj => by
      obtain ⟨a, _, b⟩ := perm_len (Ql_all (c := callC T.x) (d := T.d) (j := j)).1
      refine ⟨by (first | lia | omega), fun i h1 h2 => ?_⟩
      obtain ⟨k, rfl⟩ := Int.eq_ofNat_of_zero_le h1
      exact (perm_idx Ql_all.1 (by (first | lia | omega))).2.2⟩
  obtain ⟨H4, S, x4, k4, C4, S9, gS⟩ := seg_stable (L := L2.set "ways" (.loc (H2.length + 6))) C3 e5 e6 lk_eq gW (by simp) (fun r hr => wayH_at hr) tabs
  have k13 : Kp H (wayH H2) := (k1.trans k2).trans k3
  have Y0 : ∀ Q, TY T ⟨N, D, S, Q, H2.length, n, q⟩ H4 (fun i => if i = 7 then some (.loc S) else c2 i) := fun Q =>
    ⟨(B.kp k13).kp k4, C4, e5, e6, if_pos rfl, k4.keep _ _ N9 gN3, fun i hi => k4.keep _ _ (gn' i hi).1 (gn3 i hi), k4.keep _ _ D9 gD3, fun j hj => k4.keep _ _ (gq j hj).1 (gq3 j hj), gS, fun r hr => ⟨k4.keep _ _ (by have := stabL_ge hr; dsimp only at this; (first | lia | omega)) (wayH_at (List.mem_filter.mp hr).1).1, (wayH_at (List.mem_filter.mp hr).1).2⟩, N9, D9, S9, h9, fun i hi => ⟨(gn' i hi).1, (gq i hi).1⟩⟩
  obtain ⟨H5, Q, x5, k5, C5, Q9, gQ⟩ := seg_best (L := L2.set "ways" (.loc (H2.length + 6))) (Y0 0) F
  have Z : TZ T ⟨N, D, S, Q, H2.length, n, q⟩ m H5 _ := ⟨(Y0 Q).kp k5 C5 rfl rfl rfl, if_pos rfl, gQ, Q9⟩
  have kW : ∀ y : Str, y ≠ "order" → y ≠ "ways" → (L2.set "ways" (.loc (H2.length + 6))).lookup y = L.lookup y := fun y h1 h2 => by rw [CL.lookup_set, if_neg h2, kL y h1]
  obtain ⟨H6, L6, x6, p6, k6⟩ := seg_place (L := L2.set "ways" (.loc (H2.length + 6))) Z F (by rw [kW _ (by decide) (by decide)]; exact g)
  have Z6 := Z.pre p6
  have kk : ∀ y : Str, y ≠ "order" → y ≠ "ways" → y ≠ "i" → y ≠ "place" → L6.lookup y = L.lookup y := fun y h1 h2 h3 h4 => by rw [k6 y h3 h4, kW y h1 h2]
  obtain ⟨H7, L7, c7, x7, Z7, k7⟩ := seg_worst (L := L6) Z6 F I hak (by rw [kk _ (by decide) (by decide) (by decide) (by decide)]; exact g) (by rw [kk _ (by decide) (by decide) (by decide) (by decide)]; exact ga)
  obtain ⟨H8, x8⟩ := seg_ret (L := L7) Z7 F I hak (by rw [k7 _ (by decide), kk _ (by decide) (by decide) (by decide) (by decide)]; exact ga) (by rw [k7 _ (by decide), kk _ (by decide) (by decide) (by decide) (by decide)]; exact gn)
  exact ⟨_, _, Exs.append (s1 := [lawS 14]) (Exs.cons x1 Exs.nil) (Exs.append (s1 := [lawS 15, lawS 16]) x2 (Exs.cons x3 (Exs.cons x4 (Exs.cons x5 (Exs.cons x6 (Exs.cons x7 (Exs.ret x8)))))))⟩
end Mine
end

section
set_option maxRecDepth 100000
set_option linter.unusedVariables false
set_option autoImplicit false
namespace Mine
open PySem
local macro_rules | `(tactic| walk_at "lk") => `(tactic| first | assumption | exact lk_eq | (apply lk_ne (by decide); walk_at "lk") | rfl)
local macro_rules | `(tactic| walk_at "hp") => `(tactic| first | assumption | (apply hp_app; walk_at "hp") | (apply hp_new0; rfl) | (apply hp_new; rfl) | (apply hp_set (by first | decide | (first | lia | omega)); walk_at "hp") | (apply hp_self; walk_at "hp"))
local macro_rules | `(tactic| walk_at "nm") => `(tactic| first | (apply nm_local rfl; walk_at "lk") | (apply nm_cell rfl rfl; walk_at "hp") | (apply nm_free rfl rfl; walk_at "hp") | exact nm_num rfl rfl)
local macro_rules | `(tactic| walk_at "st") => `(tactic| first | exact set_local rfl | (apply set_cell rfl rfl (h0 := by decide); walk_at "hp"))
local macro_rules | `(tactic| walk_at "bt") => `(tactic| first | (apply bt1; walk_at "st") | (apply bt2; walk_at "st"; walk_at "st") | (apply bt3; walk_at "hp"; walk_at "st"; walk_at "st"))
local macro_rules | `(tactic| walk_at "gi") => `(tactic| first | assumption | (apply gi_list; walk_at "hp"; (first | assumption | decide | (simp; done)); (first | assumption | rfl)) | (apply gi_tup; walk_at "hp"; (first | assumption | decide | (simp; done)); (first | assumption | rfl)))
local macro_rules | `(tactic| walk_at "ev") => `(tactic| first
  | exact Ev.int | exact Ev.str | exact Ev.bool | exact Ev.dict0
  | (apply Ev.name; walk_at "nm")
  | (apply Ev.sub rfl; walk_at "ev"; walk_at "ev"; walk_at "gi")
  | (apply Ev.neg; walk_at "ev")
  | (apply Ev.bin; walk_at "ev"; walk_at "ev"; first | assumption | rfl)
  | (apply Ev.cmp rfl; walk_at "ev"; walk_at "ev"; first | assumption | rfl))
local macro_rules | `(tactic| walk_at "ts") => `(tactic| first
  | (apply Ts.cmp rfl; walk_at "ev"; walk_at "ev"; first | assumption | rfl))
local macro_rules | `(tactic| walk_at "ex") => `(tactic| first
  | (apply Ex.set rfl; walk_at "ev"; walk_at "st")
  | (apply Ex.ret; walk_at "ev") | exact Ex.brk)

theorem lp_test {P : Prm} {s : St} {L : CL} {H : CH} (F : AtF P s.fr H) (N : LpN P s.n L) : Ts lawE L (whT (lawS 13)) H (decide (s.fr ≠ [])) (H ++ [.list []]) := by
  have F : H[P.aF]? = some (.list (natL s.fr)) := F
  refine Ts.cmp (a := .loc P.aF) (b := .loc H.length) (H1 := H) rfl (Ev.name (nm_local rfl N.free)) (Ev.list Es.nil (by simp)) ?_
  have h1 : (H ++ [CO.list []])[P.aF]? = some (.list (natL s.fr)) := hp_app F
  have h2 : (H ++ [CO.list []])[H.length]? = some (.list []) := hp_new0 rfl
  simp only [cmpop, h1, h2]
  cases s.fr with
  | nil => rfl
  | cons a r => simp [natL, sameObj]
theorem LpH.app {P : Prm} {s : St} {H X : CH} (S : Sta P) (B : LpH P s H) : LpH P s (H ++ X) := by
  obtain ⟨X1, ⟨b, A1, A2⟩, ⟨h, H1, H2⟩, ⟨k, K1, K2⟩, F⟩ := B
  have F : H[P.aF]? = some (.list (natL s.fr)) := F
  exact ⟨X1.up S (Up.app _), ⟨b, hp_app A1, fun i hi => ⟨(A2 i hi).1, hp_app (A2 i hi).2⟩⟩, ⟨h, hp_app H1, fun i hi => ⟨(H2 i hi).1, hp_app (H2 i hi).2.1, (H2 i hi).2.2⟩⟩, ⟨k, hp_app K1, fun i hi => ⟨(K2 i hi).1, (let ⟨ep, e⟩ := (K2 i hi).2.1; ⟨ep, hp_app e⟩), (K2 i hi).2.2⟩⟩, hp_app F⟩
theorem lp_all {P : Prm} (S : Sta P) : ∀ (k : Nat) (s : St) (L : CL) (H : CH), s.n + k = 10 → Inv (callC P.x) P.d s → LpH P s H → LpN P s.n L →
    ∃ s' L' H', Wh lawE (whT (lawS 13)) (whB (lawS 13)) L H .next L' H' ∧ Inv (callC P.x) P.d s' ∧ s'.fr = [] ∧ LpH P s' H' ∧ LpN P s'.n L' ∧ Up P.K H H'
  | 0, s, L, H, e, I, B, N => absurd I.n_le (by (first | lia | omega))
  | k + 1, s, L, H, e, I, B, N => by
    have t := lp_test B.F N
    by_cases hf : s.fr = []
    · rw [show decide (s.fr ≠ []) = false by simp [hf]] at t
      exact ⟨s, L, _, Wh.done t, I, hf, B.app S, N, Up.app _⟩
    · rw [show decide (s.fr ≠ []) = true by simp [hf]] at t
      obtain ⟨s', L', H', x1, I', n', B', N', u⟩ := lp_turn S I (B.app (X := [.list []]) S) N hf
      obtain ⟨s2, L2, H2, w, I2, f2, B2, N2, u2⟩ := lp_all S k s' L' H' (by (first | lia | omega)) I' B' N'
      exact ⟨s2, L2, H2, Wh.next t x1 w, I2, f2, B2, N2, ((Up.app _).trans u).trans u2⟩
noncomputable def st0 : St := ⟨fun _ _ => false, fun _ => none, [0, 1, 2], fun _ => [], 0⟩
theorem inv0 {c d : Nat → Nat → Int} : Inv c d st0 where
  pre := fun i j k _ _ _ h => by cases h
  hold := fun j i _ h => by cases h
  best := fun i j _ _ h => by cases h
  free := fun i hi => ⟨fun _ j _ h => by (cases h), fun _ => by
    have : i ∈ [0, 1, 2] := by
      simp only [List.mem_cons, List.not_mem_nil, or_false]
      (first | lia | omega)
    exact this⟩
  nd := (by decide : ([0, 1, 2] : List Nat).Nodup)
  f3 := fun i hi => by
    have hi : i ∈ [0, 1, 2] := hi
    simp only [List.mem_cons, List.not_mem_nil, or_false] at hi
    (first | lia | omega)
  rej := fun m w _ i j _ _ h => by cases h
  and_ := fun j _ => ⟨List.nodup_nil, fun i => ⟨fun h => (by cases h), fun h => (by cases h.2)⟩⟩
  cnt := rfl
theorem seg_held {H : CH} {L : CL} : Ex lawE (lawS 9) L H .next (L.set "held" (.loc (H.length + 3))) (H ++ [CO.list [], .list [], .list [], .list [.loc H.length, .loc (H.length + 1), .loc (H.length + 2)]]) := by
  have l1 : (H ++ [CO.list []]).length = H.length + 1 := by simp
  have l2 : (H ++ [CO.list []] ++ [CO.list []]).length = H.length + 2 := by simp
  have l3 : (H ++ [CO.list []] ++ [CO.list []] ++ [CO.list []]).length = H.length + 3 := by simp
  have e : H ++ [CO.list [], .list [], .list [], .list [.loc H.length, .loc (H.length + 1), .loc (H.length + 2)]] = H ++ [CO.list []] ++ [CO.list []] ++ [CO.list []] ++ [.list [.loc H.length, .loc (H.length + 1), .loc (H.length + 2)]] := by simp
  rw [e]
  refine Ex.set (v := .loc (H.length + 3)) rfl ?_ (set_local rfl)
  rw [← l3]
  refine Ev.list (vs := [.loc H.length, .loc (H.length + 1), .loc (H.length + 2)]) (Es.cons (H1 := H ++ [CO.list []]) rfl (Ev.list Es.nil (by simp)) (Es.cons (H1 := H ++ [CO.list []] ++ [CO.list []]) rfl ?_ (Es.cons rfl ?_ Es.nil))) (by simp)
  · rw [← l1]; exact Ev.list Es.nil (by simp)
  · rw [← l2]; exact Ev.list Es.nil (by simp)
theorem seg_asked {H : CH} {L : CL} : Ex lawE (lawS 10) L H .next (L.set "asked" (.loc (H.length + 3))) (H ++ [CO.dict [] 0, .dict [] 0, .dict [] 0, .list [.loc H.length, .loc (H.length + 1), .loc (H.length + 2)]]) := by
  have l1 : (H ++ [CO.dict [] 0]).length = H.length + 1 := by simp
  have l2 : (H ++ [CO.dict [] 0] ++ [CO.dict [] 0]).length = H.length + 2 := by simp
  have l3 : (H ++ [CO.dict [] 0] ++ [CO.dict [] 0] ++ [CO.dict [] 0]).length = H.length + 3 := by simp
  have e : H ++ [CO.dict [] 0, .dict [] 0, .dict [] 0, .list [.loc H.length, .loc (H.length + 1), .loc (H.length + 2)]] = H ++ [CO.dict [] 0] ++ [CO.dict [] 0] ++ [CO.dict [] 0] ++ [.list [.loc H.length, .loc (H.length + 1), .loc (H.length + 2)]] := by simp
  rw [e]
  refine Ex.set (v := .loc (H.length + 3)) rfl ?_ (set_local rfl)
  rw [← l3]
  refine Ev.list (vs := [.loc H.length, .loc (H.length + 1), .loc (H.length + 2)]) (Es.cons (H1 := H ++ [CO.dict [] 0]) rfl Ev.dict0 (Es.cons (H1 := H ++ [CO.dict [] 0] ++ [CO.dict [] 0]) rfl ?_ (Es.cons rfl ?_ Es.nil))) (by simp)
  · rw [← l1]; exact Ev.dict0
  · rw [← l2]; exact Ev.dict0
theorem seg_free {H : CH} {L : CL} : Ex lawE (lawS 11) L H .next (L.set "free" (.loc H.length)) (H ++ [CO.list (natL [0, 1, 2])]) :=
  Ex.set rfl (Ev.list (vs := natL [0, 1, 2]) (Es.cons rfl Ev.int (Es.cons rfl Ev.int (Es.cons rfl Ev.int Es.nil))) (by decide)) (set_local rfl)
theorem seg_zero {H : CH} {L : CL} : Ex lawE (lawS 12) L H .next (L.set "asks" (.int ((0 : Nat) : Int))) H :=
  Ex.set rfl Ev.int (set_local rfl)
end Mine
end

section
set_option maxRecDepth 100000
set_option linter.unusedVariables false
set_option autoImplicit false
namespace Mine
open PySem PySem.W PyProof.Rows
local macro_rules | `(tactic| walk_at "ev") => `(tactic| first
  | exact Ev.int
  | exact Ev.name (nm_local rfl rfl)
  | exact Ev.name (nm_num rfl rfl)
  | (apply Ev.bin; walk_at "ev"; walk_at "ev"; first | assumption | rfl)
  | (apply Ev.cmp rfl; walk_at "ev"; walk_at "ev"; first | assumption | rfl))
/-- the price of a pair of signs -/
noncomputable def subQ (c d : Str) : Option Int := if c = d then some 0 else match strLower c with
  | some x => match strLower d with
    | some y => some (if x = y then 1 else 2)
    | none => none
  | none => none
theorem subQ_inv {c d : Str} {s : Int} (h : subQ c d = some s) : (c = d ∧ s = 0) ∨ ∃ x y, c ≠ d ∧ strLower c = some x ∧ strLower d = some y ∧ s = if x = y then 1 else 2 := by
  unfold subQ at h
  split at h
  · rename_i e; cases h; exact .inl ⟨e, rfl⟩
  · rename_i ne
    split at h
    · rename_i x hx
      split at h
      · rename_i y hy; cases h; exact .inr ⟨x, y, ne, hx, hy, rfl⟩
      · cases h
    · cases h
section
variable {E : CE} {L : CL} {H : CH}
theorem low_ev {o : Expr} {q p : Pos} {s t : Str} (hb : plainBase o = true) (hli : q.endLine = p.line) (h : Ev E L o H (.str s) H) (ht : strLower s = some t) : Ev E L (.Call (.Attribute o "lower" q) [] [] p) H (.str t) H :=
  Ev.lower hb hli h ht
theorem str_eq {a b : Str} {z : Bool} (h : decide (a = b) = z) : cmpop .Eq (.str a) (.str b) H = some z := congrArg some h
theorem sub_fn {c d : Str} {s : Int} (h : subQ c d = some s) : Fn_ subF 5 [.str c, .str d] H (.int s) H := by
  refine Fn_.run (L1 := [("ch_a", .str c), ("ch_b", .str d)]) (H1 := H) (L2 := [("ch_a", .str c), ("ch_b", .str d)]) rfl rfl ?_
  obtain ⟨e, rfl⟩ | ⟨x, y, ne, hx, hy, rfl⟩ := subQ_inv h
  · exact Exs.ret (Ex.ite (z := true) (Ts.cmp rfl (Ev.name (nm_local rfl rfl)) (Ev.name (nm_local rfl rfl)) (str_eq (decide_eq_true e))) (Exs.ret (Ex.ret Ev.int)))
  · refine Exs.cons (Ex.ite (z := false) (Ts.cmp rfl (Ev.name (nm_local rfl rfl)) (Ev.name (nm_local rfl rfl)) (str_eq (decide_eq_false ne))) Exs.nil) ?_
    by_cases e : x = y
    · rw [if_pos e]
      exact Exs.ret (Ex.ite (z := true) (Ts.cmp rfl (low_ev rfl rfl (Ev.name (nm_local rfl rfl)) hx) (low_ev rfl rfl (Ev.name (nm_local rfl rfl)) hy) (str_eq (decide_eq_true e))) (Exs.ret (Ex.ret (Ev.name (nm_num rfl rfl)))))
    · rw [if_neg e]
      exact Exs.cons (Ex.ite (z := false) (Ts.cmp rfl (low_ev rfl rfl (Ev.name (nm_local rfl rfl)) hx) (low_ev rfl rfl (Ev.name (nm_local rfl rfl)) hy) (str_eq (decide_eq_false e))) Exs.nil) (Exs.ret (Ex.ret (Ev.name (nm_num rfl rfl))))
theorem pri_fn {c d : Str} {s : Int} (h : subQ c d = some s) : Fn_ priF 5 [.str c, .str d] H (.int s) H := by
  refine Fn_.run (L1 := [("one", .str c), ("two", .str d)]) (H1 := H) (L2 := [("one", .str c), ("two", .str d)]) rfl rfl ?_
  obtain ⟨e, rfl⟩ | ⟨x, y, ne, hx, hy, rfl⟩ := subQ_inv h
  · exact Exs.ret (Ex.ite (z := true) (Ts.cmp rfl (Ev.name (nm_local rfl rfl)) (Ev.name (nm_local rfl rfl)) (str_eq (decide_eq_true e))) (Exs.ret (Ex.ret Ev.int)))
  · refine Exs.cons (Ex.ite (z := false) (Ts.cmp rfl (Ev.name (nm_local rfl rfl)) (Ev.name (nm_local rfl rfl)) (str_eq (decide_eq_false ne))) Exs.nil) ?_
    refine Exs.ret (Ex.ret (Ev.ifexp (z := decide (x = y)) (Ts.cmp rfl (low_ev rfl rfl (Ev.name (nm_local rfl rfl)) hx) (low_ev rfl rfl (Ev.name (nm_local rfl rfl)) hy) (str_eq rfl)) ?_))
    by_cases e : x = y
    · rw [decide_eq_true e, if_pos e]; exact Ev.int
    · rw [decide_eq_false e, if_neg e]; exact Ev.int
end
noncomputable abbrev levE : CE := ⟨levF.scope, [], 5, 76, "_levenshtein_distance" ++ ".<locals>."⟩
noncomputable def fm (s : Str) (k : Int) : Str := Txt.slice s (some k) none
noncomputable def zo (k : Int) : Option Int := if k = 0 then none else some k
noncomputable def tl (s : Str) (k : Int) : Str := Txt.slice s none (zo k)
noncomputable def few (s : Str) : Bool := decide (s.cps.size ≤ 1000)
noncomputable def any_ (s : Str) : Bool := decide (s.cps.size ≠ 0)
noncomputable def at1 (s : Str) (k : Int) : Option Str := match getItem (.str s) (.int k) [] with
  | some (.str c) => some c
  | _ => none
noncomputable def andZ (x y : Str) (c d : Option Str) : Option Bool := if few x = true ∧ few y = true then (if any_ x then (if any_ y then match c with
    | some p => match d with
      | some q => some (decide (p = q))
      | none => none
    | none => none else some false) else some false) else none
noncomputable def cntN (t : Int → Option Bool) (nx : Int → Int) : Nat → Int → Option Int
  | 0, _ => none
  | n + 1, k => match t k with
    | some true => cntN t nx n (nx k)
    | some false => some k
    | none => none
section
variable {E : CE} {L : CL} {H : CH} {p q : Pos} {s x y : Str}
theorem at1_get {k : Int} {c : Str} (h : at1 s k = some c) : getItem (.str s) (.int k) H = some (.str c) := by
  unfold at1 at h
  split at h
  · rename_i e; cases h; exact e
  · cases h
theorem few_le (h : few s = true) : s.cps.size ≤ 1000 := of_decide_eq_true h
theorem tr_str {z : Bool} (h : few s = true) (e : any_ s = z) : truth (.str s) = some z := e ▸ if_pos (few_le h)
theorem and_ts {X Y C : Expr} {c d : Option Str} {z : Bool} (pX : plainTest X = true) (pY : plainTest Y = true) (hX : Ev E L X H (.str x) H) (hY : Ev E L Y H (.str y) H) (hC : ∀ u v, c = some u → d = some v → Ts E L C H (decide (u = v)) H) (h : andZ x y c d = some z) :
    Ts E L (.BoolOp .And [X, Y, C] p) H z H := by
  unfold andZ at h
  split at h
  · rename_i hf
    cases ex : any_ x with
    | false => rw [ex] at h; cases h; exact Ts.stop (op := .And) (Ts.of pX hX (tr_str hf.1 ex))
    | true =>
      have tx := Ts.of pX hX (tr_str hf.1 ex)
      rw [ex] at h
      cases ey : any_ y with
      | false => rw [ey] at h; cases h; exact Ts.all (op := .And) (.go tx (.stop (Ts.of pY hY (tr_str hf.2 ey))))
      | true =>
        have ty := Ts.of pY hY (tr_str hf.2 ey)
        rw [ey] at h
        cases c with
        | none => cases h
        | some u => cases d with
          | none => cases h
          | some v =>
            have tc := hC u v rfl rfl
            cases h
            cases e : decide (u = v) with
            | false => rw [e] at tc; exact Ts.all (op := .And) (.go tx (.go ty (.stop tc)))
            | true => rw [e] at tc; exact Ts.all (op := .And) (.go tx (.go ty (.go tc .nil)))
  · cases h
theorem wh_cnt {test : Expr} {body : List Stmt} {mk : Int → CL} {t : Int → Option Bool} {nx : Int → Int} (ht : ∀ k z, t k = some z → Ts E (mk k) test H z H) (hb : ∀ k, Exs E body (mk k) H .next (mk (nx k)) H) :
    ∀ n k k', cntN t nx n k = some k' → Wh E test body (mk k) H .next (mk k') H
  | 0, k, k', h => by cases h
  | n + 1, k, k', h => by
    unfold cntN at h
    split at h
    · rename_i e; exact Wh.next (ht k _ e) (hb k) (wh_cnt ht hb n _ _ h)
    · rename_i e; cases h; exact Wh.done (ht k _ e)
    · cases h
theorem len_ev {X : Expr} {n : Nat} (hs : notStar X = true) (hk : kindIn E ("len" : Str) = some .globalImplicit) (h : Ev E L X H (.str s) H) (hz : few s = true) (hn : s.cps.size = n) : Ev E L (.Call (.Name "len" q) [X] [] p) H (.int n) H := by
  subst hn
  exact Ev.bi rfl hk rfl rfl (Es.cons hs h Es.nil) (.lenS (few_le hz))
end
noncomputable def preT (a b : Str) (k : Int) : Option Bool := andZ (fm a k) (fm b k) (at1 a k) (at1 b k)
noncomputable def postT (a b : Str) (k : Int) : Option Bool := andZ (tl a k) (tl b k) (at1 a (k - 1)) (at1 b (k - 1))
noncomputable def pv (k : Int) : CV := if k = 0 then .none else .int k
theorem pv_part (k : Int) : sPart (pv k) = some (zo k) := by
  unfold pv zo
  by_cases e : k = 0
  · rw [if_pos e, if_pos e]; rfl
  · rw [if_neg e, if_neg e]; rfl
section
variable {L : CL} {H : CH} {p q r : Pos} {j : Nat}
theorem post_ev {k : Int} (h : L.lookup ("post" : Str) = some (.int k)) : Ev levE L (.BoolOp .Or [.Name "post" p, .Constant .none j q] r) H (pv k) H := by
  unfold pv
  by_cases e : k = 0
  · subst e; exact Ev.orF (Ev.name (nm_local rfl h)) rfl Ev.nil_
  · rw [if_neg e]; exact Ev.orT (Ev.name (nm_local rfl h)) (congrArg some (decide_eq_true e))
end
/-- the locals, in the order in which they come -/
noncomputable abbrev L4 (a b : Str) (m k : Int) : CL := [("a", .str a), ("b", .str b), ("max_cost", .int m), ("pre", .int k)]
noncomputable abbrev L5 (a b : Str) (m k j : Int) : CL := [("a", .str a), ("b", .str b), ("max_cost", .int m), ("pre", .int k), ("post", .int j)]
theorem lev_a {a b : Str} {m k j d : Int} {H H' : CH} (ne : a ≠ b) (fa : few a = true) (fb : few b = true) (h1 : cntN (preT a b) (fun i => i + 1) 3 0 = some k) (f1 : few (fm a k) = true) (f2 : few (fm b k) = true) (h2 : cntN (postT (fm a k) (fm b k)) (fun i => i - 1) 3 0 = some j)
    (rest : ∃ L, Exs levE (levF.body.drop 9) (L5 (tl (fm a k) j) (tl (fm b k) j) m k j) H (.ret (.int d)) L H') : Fn_ levF 6 [.str a, .str b, .int m] H (.int d) H' := by
  obtain ⟨L, rest⟩ := rest
  refine Fn_.run (L1 := [("a", .str a), ("b", .str b), ("max_cost", .int m)]) (H1 := H) (L2 := L) rfl rfl ?_
  refine Exs.cons (Ex.ite (z := false) (Ts.cmp rfl (Ev.name (nm_local rfl rfl)) (Ev.name (nm_local rfl rfl)) (str_eq (decide_eq_false ne))) Exs.nil) ?_
  refine Exs.cons (L1 := L4 a b m 0) (Ex.set rfl Ev.int (set_local rfl)) ?_
  refine Exs.cons (Ex.while_ (wh_cnt (mk := L4 a b m) (nx := fun i => i + 1) (fun i z h => and_ts rfl rfl (Ev.from_ (Ev.name (nm_local rfl rfl)) (Ev.name (nm_local rfl rfl)) (few_le fa) rfl) (Ev.from_ (Ev.name (nm_local rfl rfl)) (Ev.name (nm_local rfl rfl)) (few_le fb) rfl)
    (fun u v hu hv => Ts.cmp rfl (Ev.sub rfl (Ev.name (nm_local rfl rfl)) (Ev.name (nm_local rfl rfl)) (at1_get hu)) (Ev.sub rfl (Ev.name (nm_local rfl rfl)) (Ev.name (nm_local rfl rfl)) (at1_get hv)) (str_eq rfl)) h)
    (fun i => Exs.cons (Ex.aug (nm_local rfl rfl) Ev.int (set_local rfl)) Exs.nil) 3 0 k h1)) ?_
  refine Exs.cons (L1 := L4 (fm a k) b m k) (Ex.set rfl (Ev.from_ (Ev.name (nm_local rfl rfl)) (Ev.name (nm_local rfl rfl)) (few_le fa) rfl) (set_local rfl)) ?_
  refine Exs.cons (L1 := L4 (fm a k) (fm b k) m k) (Ex.set rfl (Ev.from_ (Ev.name (nm_local rfl rfl)) (Ev.name (nm_local rfl rfl)) (few_le fb) rfl) (set_local rfl)) ?_
  refine Exs.cons (L1 := L5 (fm a k) (fm b k) m k 0) (Ex.set rfl Ev.int (set_local rfl)) ?_
  generalize fm a k = a1 at *
  generalize fm b k = b1 at *
  refine Exs.cons (Ex.while_ (wh_cnt (mk := L5 a1 b1 m k) (nx := fun i => i - 1) (fun i z h => and_ts rfl rfl (Ev.to_ (Ev.name (nm_local rfl rfl)) (post_ev rfl) (pv_part i) (few_le f1) rfl) (Ev.to_ (Ev.name (nm_local rfl rfl)) (post_ev rfl) (pv_part i) (few_le f2) rfl)
    (fun u v hu hv => Ts.cmp rfl (Ev.sub rfl (Ev.name (nm_local rfl rfl)) (Ev.bin (Ev.name (nm_local rfl rfl)) Ev.int rfl) (at1_get hu)) (Ev.sub rfl (Ev.name (nm_local rfl rfl)) (Ev.bin (Ev.name (nm_local rfl rfl)) Ev.int rfl) (at1_get hv)) (str_eq rfl)) h)
    (fun i => Exs.cons (Ex.less (nm_local rfl rfl) Ev.int (set_local rfl)) Exs.nil) 3 0 j h2)) ?_
  refine Exs.cons (L1 := L5 (tl a1 j) b1 m k j) (Ex.set rfl (Ev.to_ (Ev.name (nm_local rfl rfl)) (post_ev rfl) (pv_part j) (few_le f1) rfl) (set_local rfl)) ?_
  exact Exs.cons (L1 := L5 (tl a1 j) (tl b1 j) m k j) (Ex.set rfl (Ev.to_ (Ev.name (nm_local rfl rfl)) (post_ev rfl) (pv_part j) (few_le f2) rfl) (set_local rfl)) rest
noncomputable def mn2 (x y : Int) : Int := if y < x then y else x
/-- what the walk over one row of the table carries -/
structure SI where
  row : List Int
  d : Int
  r : Int
  mn : Int
noncomputable def SI.go (s : SI) (a c : Str) (i : Int) : SI :=
  let d := s.row.getD i.toNat 0
  let r := mn2 (mn2 s.r d + 2) (s.d + (subQ c ((at1 a i).getD c)).getD 0)
  ⟨s.row.set i.toNat r, d, r, if r < s.mn then r else s.mn⟩
noncomputable def SI.ok (s : SI) (a c : Str) (i : Int) : Bool := decide (0 ≤ i ∧ i < 1000 ∧ i.toNat < s.row.length ∧ s.row.length ≤ 1000) && ((at1 a i).isSome && (subQ c ((at1 a i).getD c)).isSome)
noncomputable def SI.run (a c : Str) : Nat → Int → SI → SI
  | 0, _, s => s
  | n + 1, i, s => SI.run a c n (i + 1) (s.go a c i)
noncomputable def SI.fine (a c : Str) : Nat → Int → SI → Bool
  | 0, _, _ => true
  | n + 1, i, s => s.ok a c i && SI.fine a c n (i + 1) (s.go a c i)
noncomputable def SI.top (s : SI) (j : Int) : SI := ⟨s.row, j * 2, j * 2, 9223372036854775807⟩
noncomputable def SI.go2 (s : SI) (a b : Str) (j : Int) : SI := SI.run a ((at1 b j).getD a) a.cps.size 0 (s.top j)
noncomputable def SI.run2 (a b : Str) : Nat → Int → SI → SI
  | 0, _, s => s
  | n + 1, j, s => SI.run2 a b n (j + 1) (s.go2 a b j)
noncomputable def SI.fine2 (m : Int) (a b : Str) : Nat → Int → SI → Bool
  | 0, _, _ => true
  | n + 1, j, s => (decide (0 ≤ j ∧ j < 1000) && (at1 b j).isSome && SI.fine a ((at1 b j).getD a) a.cps.size 0 (s.top j) && decide ((s.go2 a b j).mn ≤ m)) && SI.fine2 m a b n (j + 1) (s.go2 a b j)
/-- all that X tells, L tells -/
noncomputable def Sees (L X : CL) : Prop := ∀ x v, X.lookup x = some v → L.lookup x = some v
theorem Sees.set {L X : CL} (h : Sees L X) {x : Str} {v : CV} : Sees (L.set x v) (X.set x v) := fun y u e => by
  rw [CL.lookup_set] at e ⊢
  split
  · rename_i z; rw [if_pos z] at e; exact e
  · rename_i z; rw [if_neg z] at e; exact h y u e
theorem Sees.first {L X Y : CL} (h : Sees L (X ++ Y)) : Sees L X := fun x v e => h x v (by rw [List.lookup_append, e]; rfl)
noncomputable abbrev L7 (a b : Str) (m k p : Int) (r : Int) : CL := [("a", .str a), ("b", .str b), ("max_cost", .int m), ("pre", .int k), ("post", .int p), ("row", .loc 2), ("result", .int r)]
noncomputable abbrev L11 (a b : Str) (m k p : Int) (r j : Int) (c : Str) (d mn : Int) : CL := [("a", .str a), ("b", .str b), ("max_cost", .int m), ("pre", .int k), ("post", .int p), ("row", .loc 2), ("result", .int r), ("bindex", .int j), ("bchar", .str c), ("distance", .int d), ("minimum", .int mn)]
section
variable {L : CL} {H : CH} {a b c : Str} {m k p j : Int}
theorem isSome_get {α : Type} {o : Option α} {d : α} (h : o.isSome = true) : o = some (o.getD d) := by
  cases o with
  | none => cases h
  | some x => rfl
theorem mn2_bi {x y : Int} : BiS .min [.int x, .int y] H (.int (mn2 x y)) H := .min2
noncomputable abbrev inB : List Stmt := forB (nth (forB (nth levF.body 15)) 3)
theorem in_turn {i : Int} {s : SI} (hs : Sees L (L11 a b m k p s.r j c s.d s.mn)) (hr : H[2]? = some (.list (intL s.row))) (ok : s.ok a c i = true) :
    ∃ L', Exs levE inB (L.set "index" (.int i)) H .next L' (H.set 2 (.list (intL (s.go a c i).row))) ∧ Sees L' (L11 a b m k p (s.go a c i).r j c (s.go a c i).d (s.go a c i).mn) := by
  obtain ⟨h9, h8⟩ := (Bool.and_eq_true _ _).mp ok
  obtain ⟨h0, h1, h2, h3⟩ := of_decide_eq_true h9
  obtain ⟨h4, h5⟩ := (Bool.and_eq_true _ _).mp h8
  clear h9 h8 ok
  have h4 := isSome_get (d := c) h4
  have h5 := isSome_get (d := 0) h5
  obtain ⟨row, d, r, mn⟩ := s
  dsimp only at hs hr h2 h3
  have hx : (intL row)[i.toNat]? = some (.int (row.getD i.toNat 0)) := by simp [intL, h2]
  unfold SI.go
  dsimp only
  generalize (at1 a i).getD c = ch at h4 h5
  generalize (subQ c ch).getD 0 = sq at h5
  generalize row.getD i.toNat 0 = d2 at hx
  have s1 := hs.set (x := "index") (v := .int i)
  have s2 := s1.set (x := "substitute") (v := .int (d + sq))
  have s3 := s2.set (x := "distance") (v := .int d2)
  have s4 := s3.set (x := "insert_delete") (v := .int (mn2 r d2 + 2))
  have s5 := s4.set (x := "result") (v := .int (mn2 (mn2 r d2 + 2) (d + sq)))
  have body : ∀ {L6 H6}, Ex levE (nth inB 5) _ _ .next L6 H6 → Exs levE inB _ H .next L6 H6 := fun {L6 H6} h =>
    Exs.cons (Ex.set rfl (Ev.bin (Ev.name (nm_local rfl (s1 _ _ rfl))) (Ev.fn (g := subF) rfl rfl rfl (Es.cons rfl (Ev.name (nm_local rfl (s1 _ _ rfl))) (Es.cons rfl (Ev.sub rfl (Ev.name (nm_local rfl (s1 _ _ rfl))) (Ev.name (nm_local rfl (s1 _ _ rfl))) (at1_get h4)) Es.nil)) (sub_fn h5)) rfl) (set_local rfl))
    (Exs.cons (Ex.set rfl (Ev.sub rfl (Ev.name (nm_local rfl (s2 _ _ rfl))) (Ev.name (nm_local rfl (s2 _ _ rfl))) (gi_list hr ⟨h0, by simpa [intL] using h3⟩ hx)) (set_local rfl))
    (Exs.cons (Ex.set rfl (Ev.bin (Ev.bi rfl rfl rfl rfl (Es.cons rfl (Ev.name (nm_local rfl (s3 _ _ rfl))) (Es.cons rfl (Ev.name (nm_local rfl (s3 _ _ rfl))) Es.nil)) mn2_bi) (Ev.name (nm_num rfl rfl)) rfl) (set_local rfl))
    (Exs.cons (Ex.set rfl (Ev.bi rfl rfl rfl rfl (Es.cons rfl (Ev.name (nm_local rfl (s4 _ _ rfl))) (Es.cons rfl (Ev.name (nm_local rfl (s4 _ _ rfl))) Es.nil)) mn2_bi) (set_local rfl))
    (Exs.cons (Ex.setItem rfl (Ev.name (nm_local rfl (s5 _ _ rfl))) (Ev.name (nm_local rfl (s5 _ _ rfl))) (Ev.name (nm_local rfl (s5 _ _ rfl))) hr ⟨by decide, h0, h1, by simp [intL]; (first | lia | omega)⟩)
    (Exs.cons h Exs.nil)))))
  generalize mn2 (mn2 r d2 + 2) (d + sq) = z at s5 body ⊢
  rw [show (intL row).set i.toNat (.int z) = intL (row.set i.toNat z) by simp [intL]] at body
  by_cases hm : z < mn
  · rw [if_pos hm]
    exact ⟨_, body (Ex.ite (z := true) (Ts.cmp rfl (Ev.name (nm_local rfl (s5 _ _ rfl))) (Ev.name (nm_local rfl (s5 _ _ rfl))) (congrArg some (decide_eq_true hm))) (Exs.cons (Ex.set rfl (Ev.name (nm_local rfl (s5 _ _ rfl))) (set_local rfl)) Exs.nil)), (s5.set (x := "minimum") (v := .int z)).first (X := L11 a b m k p z j c d2 z) (Y := [("index", .int i), ("substitute", .int (d + sq)), ("insert_delete", .int (mn2 r d2 + 2))])⟩
  · rw [if_neg hm]
    exact ⟨_, body (Ex.ite (z := false) (Ts.cmp rfl (Ev.name (nm_local rfl (s5 _ _ rfl))) (Ev.name (nm_local rfl (s5 _ _ rfl))) (congrArg some (decide_eq_false hm))) Exs.nil), s5.first (X := L11 a b m k p z j c d2 mn) (Y := [("index", .int i), ("substitute", .int (d + sq)), ("insert_delete", .int (mn2 r d2 + 2))])⟩
theorem in_loop : ∀ (n : Nat) (i : Int) (s : SI) (L : CL) (H : CH), Sees L (L11 a b m k p s.r j c s.d s.mn) → H[2]? = some (.list (intL s.row)) → SI.fine a c n i s = true → NoCode H →
    ∃ L' H', Fr_ levE (forT (nth (forB (nth levF.body 15)) 3)) (.range i 1 n) inB L H .next L' H' ∧ Sees L' (L11 a b m k p (SI.run a c n i s).r j c (SI.run a c n i s).d (SI.run a c n i s).mn) ∧ H'[2]? = some (.list (intL (SI.run a c n i s).row)) ∧ NoCode H'
  | 0, i, s, L, H, hs, hr, hf, nc => ⟨L, H, Fr_.done rfl, hs, hr, nc⟩
  | n + 1, i, s, L, H, hs, hr, hf, nc => by
    obtain ⟨h1, h2⟩ := (Bool.and_eq_true _ _).mp hf
    obtain ⟨L1, e1, s1⟩ := in_turn hs hr h1
    obtain ⟨L2, H2, e2, r2⟩ := in_loop n (i + 1) _ L1 _ s1 (hp_self hr) h2 (nc.set (by intro z; cases z))
    exact ⟨L2, H2, Fr_.next rfl (bt1 (set_local rfl)) e1 e2, r2⟩
noncomputable def rgOk (n : Nat) : Bool := decide (Builtin.Range.small 0 n 1) && ((Builtin.Range.rangeSize 0 n 1).toNat == n)
theorem rg_src {E : CE} {X : Expr} {x y : Pos} {n : Nat} (hs : notStar X = true) (hk : kindIn E ("range" : Str) = some .globalImplicit) (h : Ev E L X H (.int n) H) (ok : rgOk n = true) : Sc E L (.Call (.Name "range" x) [X] [] y) H (.range 0 1 n) (H ++ [.range 0 n 1]) := by
  obtain ⟨h1, h2⟩ := (Bool.and_eq_true _ _).mp ok
  refine Sc.of rfl (Ev.bi (H2 := H ++ [.range 0 n 1]) rfl hk rfl rfl (Es.cons hs h Es.nil) .range1) ?_
  unfold iterOf
  dsimp only
  rw [hp_new0 (o := .range 0 n 1) rfl]
  dsimp only
  rw [if_pos (of_decide_eq_true h1), beq_iff_eq.mp h2]
theorem out_loop (fa : few a = true) (ra : rgOk a.cps.size = true) : ∀ (n : Nat) (j : Int) (s : SI) (L : CL) (H : CH), Sees L (L7 a b m k p s.r) → H[2]? = some (.list (intL s.row)) → SI.fine2 m a b n j s = true → NoCode H →
    ∃ L' H', Fr_ levE (forT (nth levF.body 15)) (.range j 1 n) (forB (nth levF.body 15)) L H .next L' H' ∧ Sees L' (L7 a b m k p (SI.run2 a b n j s).r) ∧ NoCode H'
  | 0, j, s, L, H, hs, hr, hf, nc => ⟨L, H, Fr_.done rfl, hs, nc⟩
  | n + 1, j, s, L, H, hs, hr, hf, nc => by
    obtain ⟨h1, h2⟩ := (Bool.and_eq_true _ _).mp hf
    obtain ⟨h1, h3⟩ := (Bool.and_eq_true _ _).mp h1
    obtain ⟨h1, h4⟩ := (Bool.and_eq_true _ _).mp h1
    obtain ⟨h1, h5⟩ := (Bool.and_eq_true _ _).mp h1
    have hj := of_decide_eq_true h1
    have h5 := isSome_get (d := a) h5
    have h3 := of_decide_eq_true h3
    have h2 : SI.fine2 m a b n (j + 1) (s.go2 a b j) = true := h2
    unfold SI.go2 at h2 h3
    unfold SI.run2 SI.go2
    generalize (at1 b j).getD a = c at h5 h4 h2 h3 ⊢
    have s1 := hs.set (x := "bindex") (v := .int j)
    have s2 := s1.set (x := "bchar") (v := .str c)
    have s3 := (s2.set (x := "distance") (v := .int (j * 2))).set (x := "result") (v := .int (j * 2))
    have s4 := s3.set (x := "minimum") (v := .int 9223372036854775807)
    obtain ⟨L1, H1, e1, t1, r1, n1⟩ := in_loop (a := a) (b := b) (m := m) (k := k) (p := p) (j := j) (c := c) a.cps.size 0 (s.top j) _ (H ++ [.range 0 a.cps.size 1]) s4 (hp_app hr) h4 (nc.app (.cons (by intro z; cases z) .nil))
    generalize SI.run a c a.cps.size 0 (s.top j) = s' at h2 h3 t1 r1 ⊢
    obtain ⟨L2, H2, e2, r2⟩ := out_loop fa ra n (j + 1) s' L1 H1 (t1.first (X := L7 a b m k p s'.r) (Y := [("bindex", .int j), ("bchar", .str c), ("distance", .int s'.d), ("minimum", .int s'.mn)])) r1 h2 n1
    refine ⟨L2, H2, Fr_.next rfl (bt1 (set_local rfl)) ?_ e2, r2⟩
    refine Exs.cons (Ex.set rfl (Ev.sub rfl (Ev.name (nm_local rfl (s1 _ _ rfl))) (Ev.name (nm_local rfl (s1 _ _ rfl))) (at1_get h5)) (set_local rfl)) ?_
    refine Exs.cons (Ex.two (Ev.bin (Ev.name (nm_local rfl (s2 _ _ rfl))) (Ev.name (nm_num rfl rfl)) (if_pos (by (first | lia | omega)))) rfl) ?_
    refine Exs.cons (Ex.set rfl Ev.int (set_local rfl)) ?_
    refine Exs.cons (Ex.for_ (rg_src rfl rfl (len_ev rfl rfl (Ev.name (nm_local rfl (s4 _ _ rfl))) fa rfl) ra) e1) ?_
    exact Exs.cons (Ex.ite (z := false) (Ts.cmp rfl (Ev.name (nm_local rfl (t1 _ _ rfl))) (Ev.name (nm_local rfl (t1 _ _ rfl))) (congrArg some (decide_eq_false (by (first | lia | omega))))) Exs.nil) Exs.nil
theorem mul2 {x : Int} : binop .Mult (.int 2) (.int x) H = some (.int (2 * x), H) := by
  show (if (2 : Int).natAbs < 1000000000 then some (CV.int (2 * x), H) else none) = _
  exact if_pos (by decide)
/-- one of the two is empty -/
theorem lev_b (fa : few a = true) (fb : few b = true) (h : any_ a = false ∨ (any_ a = true ∧ any_ b = false)) : Exs levE (levF.body.drop 9) (L5 a b m k p) H (.ret (.int (2 * ((a.cps.size : Int) + b.cps.size)))) (L5 a b m k p) H := by
  refine Exs.ret (Ex.ite (z := true) ?_ (Exs.ret (Ex.ret (Ev.bin (Ev.name (nm_num rfl rfl)) (Ev.bin (len_ev rfl rfl (Ev.name (nm_local rfl rfl)) fa rfl) (len_ev rfl rfl (Ev.name (nm_local rfl rfl)) fb rfl) rfl) mul2))))
  have ta : ∀ {x : Str} {s : Str} {z : Bool} {q r : Pos}, kindIn levE x = some .local → few s = true → any_ s = z → (L5 a b m k p).lookup x = some (.str s) → Ts levE (L5 a b m k p) (.UnaryOp .Not (.Name x q) r) H (!z) H := fun hk hf hz hl => Ts.not (Ts.of rfl (Ev.name (nm_local hk hl)) (tr_str hf hz))
  obtain h | ⟨h, h'⟩ := h
  · exact Ts.stop (op := .Or) (ta rfl fa h rfl)
  · exact Ts.all (op := .Or) (.go (ta rfl fa h rfl) (.stop (ta rfl fb h' rfl)))
noncomputable def stepZ (n : Nat) : Int := 2 * ((n : Int) + 1)
noncomputable def rowOk (n : Nat) : Bool := decide (stepZ n < 1000) && decide (Builtin.Range.small 2 (stepZ n) 2 ∧ Builtin.Range.rangeSize 2 (stepZ n) 2 ≤ 1000)
noncomputable def row0 (n : Nat) : List Int := (List.range (Builtin.Range.rangeSize 2 (stepZ n) 2).toNat).map fun (i : Nat) => 2 + i * 2
/-- what the table's walk asks -/
noncomputable def goodM (a b : Str) (m : Int) : Bool := decide (((b.cps.size : Int) - a.cps.size).natAbs < 1000000000 ∧ ((b.cps.size : Int) - a.cps.size) * 2 ≤ m) && rgOk a.cps.size && rgOk b.cps.size && rowOk a.cps.size && SI.fine2 m a b b.cps.size 0 ⟨row0 a.cps.size, 0, 0, 0⟩
noncomputable def valM (a b : Str) : Int := (SI.run2 a b b.cps.size 0 ⟨row0 a.cps.size, 0, 0, 0⟩).r
theorem lev_12 (fa : few a = true) (fb : few b = true) (h1 : ((b.cps.size : Int) - a.cps.size).natAbs < 1000000000) (h2 : ((b.cps.size : Int) - a.cps.size) * 2 ≤ m) : Ex levE (nth levF.body 12) (L5 a b m k p) H .next (L5 a b m k p) H :=
  Ex.ite (z := false) (Ts.cmp rfl (Ev.bin (Ev.bin (len_ev rfl rfl (Ev.name (nm_local rfl rfl)) fb rfl) (len_ev rfl rfl (Ev.name (nm_local rfl rfl)) fa rfl) rfl) (Ev.name (nm_num rfl rfl)) (if_pos h1)) (Ev.name (nm_local rfl rfl)) (congrArg some (decide_eq_false (Int.not_lt.mpr h2)))) Exs.nil
theorem row_len (n : Nat) : binop .Mult (.int 2) (.int ((n : Int) + 1)) H = some (.int (stepZ n), H) := mul2
theorem row_rg {n : Int} (h : n < 1000) (h0 : 0 ≤ n) : BiS .range [.int 2, .int n, .int 2] H (.loc H.length) (H ++ [.range 2 n 2]) := .range3 (by (first | lia | omega))
theorem row_ls {n : Nat} {i : Nat} (h : H[i]? = some (.range 2 (stepZ n) 2)) (h4 : Builtin.Range.small 2 (stepZ n) 2 ∧ Builtin.Range.rangeSize 2 (stepZ n) 2 ≤ 1000) : BiS .list [.loc i] H (.loc H.length) (H ++ [.list (intL (row0 n))]) := by
  unfold row0 intL
  rw [List.map_map]
  exact .list h h4
theorem lev_13 (fa : few a = true) (h3 : stepZ a.cps.size < 1000) (h4 : Builtin.Range.small 2 (stepZ a.cps.size) 2 ∧ Builtin.Range.rangeSize 2 (stepZ a.cps.size) 2 ≤ 1000) : Ex levE (nth levF.body 13) (L5 a b m k p) [.any] .next ((L5 a b m k p).set "row" (.loc 2)) [.any, .range 2 (stepZ a.cps.size) 2, .list (intL (row0 a.cps.size))] :=
  Ex.set rfl (Ev.bi (vs := [.loc 1]) (H1 := [.any, .range 2 (stepZ a.cps.size) 2]) rfl rfl rfl rfl (Es.cons rfl (Ev.bi (vs := [.int 2, .int (stepZ a.cps.size), .int 2]) rfl rfl rfl rfl (Es.cons rfl (Ev.name (nm_num rfl rfl))
    (Es.cons rfl (Ev.bin (Ev.name (nm_num rfl rfl)) (Ev.bin (len_ev rfl rfl (Ev.name (nm_local rfl rfl)) fa rfl) Ev.int rfl) (row_len _)) (Es.cons rfl (Ev.name (nm_num rfl rfl)) Es.nil))) (row_rg h3 (by unfold stepZ; (first | lia | omega)))) Es.nil) (row_ls rfl h4)) (set_local rfl)
theorem lev_d (fa : few a = true) (fb : few b = true) (h : goodM a b m = true) : ∃ L H', Exs levE (levF.body.drop 12) (L5 a b m k p) [.any] (.ret (.int (valM a b))) L H' ∧ NoCode H' := by
  simp only [goodM, Bool.and_eq_true, decide_eq_true_eq, rowOk] at h
  obtain ⟨⟨⟨⟨⟨h1, h2⟩, ra⟩, rb⟩, h3, h4⟩, hf⟩ := h
  have nc : NoCode [CO.any, .range 2 (stepZ a.cps.size) 2, .list (intL (row0 a.cps.size)), .range 0 b.cps.size 1] := .cons (by intro z; cases z) (.cons (by intro z; cases z) (.cons (by intro z; cases z) (.cons (by intro z; cases z) .nil)))
  obtain ⟨L, H', e, t, n⟩ := out_loop (k := k) (p := p) fa ra b.cps.size 0 ⟨row0 a.cps.size, 0, 0, 0⟩ (L7 a b m k p 0) _ (fun _ _ e => e) rfl hf nc
  refine ⟨L, H', ?_, n⟩
  refine Exs.cons (lev_12 fa fb h1 h2) (Exs.cons (lev_13 fa h3 h4) ?_)
  refine Exs.cons (Ex.set rfl Ev.int (set_local rfl)) ?_
  refine Exs.cons (Ex.for_ (rg_src rfl rfl (len_ev rfl rfl (Ev.name (nm_local rfl rfl)) fb rfl) rb) e) ?_
  exact Exs.ret (Ex.ret (Ev.name (nm_local rfl (t _ _ rfl))))
theorem lev_c (fa : few a = true) (fb : few b = true) (ha : any_ a = true) (hb : any_ b = true) (za : a.cps.size ≤ 40) (zb : b.cps.size ≤ 40) {d : Int} (h : if b.cps.size < a.cps.size then goodM b a m = true ∧ valM b a = d else goodM a b m = true ∧ valM a b = d) :
    ∃ L H', Exs levE (levF.body.drop 9) (L5 a b m k p) [.any] (.ret (.int d)) L H' ∧ NoCode H' := by
  have ta : ∀ {x : Str} {s : Str} {q r : Pos}, kindIn levE x = some .local → few s = true → any_ s = true → (L5 a b m k p).lookup x = some (.str s) → Ts levE (L5 a b m k p) (.UnaryOp .Not (.Name x q) r) [.any] false [.any] := fun hk hf hz hl => Ts.not (z := true) (Ts.of rfl (Ev.name (nm_local hk hl)) (tr_str hf hz))
  have go : ∀ {L H' x y d}, Ex levE (nth levF.body 11) (L5 a b m k p) [.any] .next (L5 x y m k p) [.any] → Exs levE (levF.body.drop 12) (L5 x y m k p) [.any] (.ret (.int d)) L H' → Exs levE (levF.body.drop 9) (L5 a b m k p) [.any] (.ret (.int d)) L H' := fun h11 h12 =>
    Exs.cons (Ex.ite (z := false) (Ts.all (op := .Or) (.go (ta rfl fa ha rfl) (.go (ta rfl fb hb rfl) .nil))) Exs.nil)
    (Exs.cons (Ex.ite (z := false) (Ts.all (op := .Or) (.go (Ts.cmp rfl (len_ev rfl rfl (Ev.name (nm_local rfl rfl)) fa rfl) (Ev.name (nm_num rfl rfl)) (congrArg some (decide_eq_false (by (first | lia | omega))))) (.go (Ts.cmp rfl (len_ev rfl rfl (Ev.name (nm_local rfl rfl)) fb rfl) (Ev.name (nm_num rfl rfl)) (congrArg some (decide_eq_false (by (first | lia | omega))))) .nil))) Exs.nil)
    (Exs.cons h11 h12))
  by_cases hz : b.cps.size < a.cps.size
  · rw [if_pos hz] at h
    obtain ⟨g, rfl⟩ := h
    obtain ⟨L, H', e, n⟩ := lev_d (k := k) (p := p) fb fa g
    exact ⟨L, H', go (Ex.ite (z := true) (Ts.cmp rfl (len_ev rfl rfl (Ev.name (nm_local rfl rfl)) fb rfl) (len_ev rfl rfl (Ev.name (nm_local rfl rfl)) fa rfl) (congrArg some (decide_eq_true (Int.ofNat_lt.mpr hz)))) (Exs.cons (Ex.swap (L2 := L5 b a m k p) (H2 := [.any]) (by decide) (by decide) rfl (Es.cons rfl (Ev.name (nm_local rfl rfl)) (Es.cons rfl (Ev.name (nm_local rfl rfl)) Es.nil)) ((if_pos ⟨rfl, rfl⟩).trans rfl)) Exs.nil)) e, n⟩
  · rw [if_neg hz] at h
    obtain ⟨g, rfl⟩ := h
    obtain ⟨L, H', e, n⟩ := lev_d (k := k) (p := p) fa fb g
    exact ⟨L, H', go (Ex.ite (z := false) (Ts.cmp rfl (len_ev rfl rfl (Ev.name (nm_local rfl rfl)) fb rfl) (len_ev rfl rfl (Ev.name (nm_local rfl rfl)) fa rfl) (congrArg some (decide_eq_false fun z => hz (Int.ofNat_lt.mp z)))) Exs.nil) e, n⟩
end
end Mine
end

section
set_option maxRecDepth 100000
set_option linter.unusedVariables false
set_option autoImplicit false
namespace Mine
open PySem PySem.W PyProof.Rows
noncomputable def ch (s : Str) (i : Nat) : Str := ⟨#[s.cps.getD i 0]⟩
noncomputable def zpL (x y : Str) : Nat → Nat → List Int
  | 0, _ => []
  | n + 1, i => (subQ (ch x i) (ch y i)).getD 0 :: zpL x y n (i + 1)
noncomputable def zpOk (x y : Str) : Nat → Nat → Bool
  | 0, i => decide (x.cps.size ≤ i)
  | n + 1, i => decide (i < x.cps.size ∧ i < y.cps.size) && (subQ (ch x i) (ch y i)).isSome && zpOk x y n (i + 1)
theorem zpL_len (x y : Str) : ∀ n i, (zpL x y n i).length = n
  | 0, _ => rfl
  | n + 1, i => congrArg (· + 1) (zpL_len x y n (i + 1))
noncomputable abbrev farE : CE := ⟨farF.scope, [("one", 1)], 5, 88, "_law_far" ++ ".<locals>."⟩
noncomputable def rhsE (e : Expr) : Expr := (exAll e).1.getD 1 dumX
noncomputable def farO : Expr := argE 0 (rhsE (retE (nth farF.body 3)))
noncomputable def farI : Expr := argE 0 (eltE farO)
noncomputable abbrev farOE : CE := inE farO farE [("one", 1)]
noncomputable abbrev farIE : CE := inE farI farOE []
theorem turn_zip {x y : Str} {i : Nat} {H : CH} (h : i < x.cps.size ∧ i < y.cps.size) : turn (.zip x y i) H = some (some ([.str (ch x i), .str (ch y i)], .zip x y (i + 1))) := by
  unfold turn ch
  simp [Array.getD, h.1, h.2]
theorem zp_go {x y : Str} {A : CH} (h0 : A.length ≠ 0) : ∀ (n i : Nat) (xs : List Int) (L : CL), zpOk x y n i = true → xs.length + n ≤ 1000 → Cm farIE farI (.zip x y i) A.length L (A ++ [.list (intL xs)]) (A ++ [.list (intL (xs ++ zpL x y n i))])
  | 0, i, xs, L, h, hz => by
    rw [show zpL x y 0 i = [] from rfl, List.append_nil]
    refine Cm.done rfl ?_
    unfold turn
    simp [of_decide_eq_true h]
  | n + 1, i, xs, L, h, hz => by
    obtain ⟨h, h3⟩ := (Bool.and_eq_true _ _).mp h
    obtain ⟨h1, h2⟩ := (Bool.and_eq_true _ _).mp h
    have h2 := isSome_get (d := 0) h2
    have key := zp_go (A := A) h0 n (i + 1) (xs ++ [(subQ (ch x i) (ch y i)).getD 0]) ((L.set "x" (.str (ch x i))).set "y" (.str (ch y i))) h3 (by rw [List.length_append]; simp; (first | lia | omega))
    rw [List.append_assoc, show intL (xs ++ [(subQ (ch x i) (ch y i)).getD 0]) = intL xs ++ [.int ((subQ (ch x i) (ch y i)).getD 0)] by simp [intL]] at key
    exact Cm.push (X := []) (X1 := []) (X2 := []) (turn_zip (of_decide_eq_true h1)) (bt2 (set_local rfl) (set_local rfl)) ⟨rfl, rfl⟩ (Ev.fn (g := priF) rfl rfl rfl (Es.cons rfl (Ev.name (nm_local rfl (lk_ne (by decide) lk_eq))) (Es.cons rfl (Ev.name (nm_local rfl lk_eq)) Es.nil)) (pri_fn h2)) ⟨h0, by simp [intL]; (first | lia | omega)⟩ key
noncomputable def smallQ (l : List Int) : Bool := l.all fun i => decide (-1000 < i) && decide (i < 1000)
noncomputable def ascii (s : Str) : Bool := s.cps.all (· < 128)
theorem way_ev {x w : Str} {A : CH} {L : CL} (h1 : A[1]? = some (.cell (some (.str x)))) (hw : L.lookup ("way" : Str) = some (.str w)) (h : ascii x = true ∧ ascii w = true) {n : Nat} (hn : n ≤ 1000) (ok : zpOk x w n 0 = true) (hs : smallQ (zpL x w n 0) = true) :
    Ev farOE L (eltE farO) A (.int (zpL x w n 0).sum) (A ++ [.list (intL (zpL x w n 0))]) := by
  have cm := zp_go (A := A) (by have := lt_of h1; (first | lia | omega)) n 0 [] [] ok (by simpa using hn)
  exact Ev.bi (vs := [.loc A.length]) (H1 := A ++ [.list (intL (zpL x w n 0))]) rfl rfl rfl rfl (Es.cons rfl (Ev.listComp (E' := farIE) rfl (Sc.zip rfl (Es.cons rfl (Ev.name (nm_cell rfl rfl h1)) (Es.cons rfl (Ev.name (nm_local rfl hw)) Es.nil)) h) rfl cm) Es.nil) (.sum (hp_new0 rfl) ⟨by rw [zpL_len]; exact hn, hs⟩)
noncomputable def more (a b : Str) : Int := (b.cps.size : Int) - a.cps.size
noncomputable def tk (b : Str) (n : Nat) : Str := Txt.slice b none (some (n : Int))
noncomputable def farW (a b : Str) : Int := 2 * more a b + min (zpL a (tk b a.cps.size) a.cps.size 0).sum (zpL a (fm b (more a b)) a.cps.size 0).sum
noncomputable def goodW (a b : Str) : Bool := (few a && few b && decide (a.cps.size ≤ 1000) && ascii a) && (ascii (tk b a.cps.size) && zpOk a (tk b a.cps.size) a.cps.size 0 && smallQ (zpL a (tk b a.cps.size) a.cps.size 0)) && (ascii (fm b (more a b)) && zpOk a (fm b (more a b)) a.cps.size 0 && smallQ (zpL a (fm b (more a b)) a.cps.size 0))
theorem far_core {a b : Str} (h : goodW a b = true) : ∃ L H', Exs farE (farF.body.drop 1) [("two", .str b)] [.any, .cell (some (.str a))] (.ret (.int (farW a b))) L H' ∧ NoCode H' := by
  simp only [goodW, Bool.and_eq_true, decide_eq_true_eq] at h
  obtain ⟨⟨⟨⟨⟨fa, fb⟩, hz⟩, as⟩, ⟨a1, ok1⟩, s1⟩, ⟨a2, ok2⟩, s2⟩ := h
  unfold farW
  generalize hw1 : tk b a.cps.size = w1 at *
  generalize hm : more a b = m at *
  generalize hw2 : fm b m = w2 at *
  generalize hn : a.cps.size = n at *
  have cm : Cm farOE farO (.list 2 0) 3 [] ([.any, .cell (some (.str a)), .list [.str w1, .str w2]] ++ [.list []]) ([.any, .cell (some (.str a)), .list [.str w1, .str w2]] ++ .list (intL [(zpL a w1 n 0).sum, (zpL a w2 n 0).sum]) :: [.list (intL (zpL a w1 n 0)), .list (intL (zpL a w2 n 0))]) := by
    refine Cm.push (H := [.any, .cell (some (.str a)), .list [.str w1, .str w2]]) (X := []) (X1 := []) (X2 := [.list (intL (zpL a w1 n 0))]) (turn_list (xs := [.str w1, .str w2]) rfl rfl) (bt1 (set_local rfl)) ⟨rfl, rfl⟩ (way_ev rfl rfl ⟨as, a1⟩ hz ok1 s1) ⟨Nat.succ_ne_zero _, Nat.le_of_ble_eq_true rfl⟩ ?_
    refine Cm.push (H := [.any, .cell (some (.str a)), .list [.str w1, .str w2]]) (X := [.list (intL (zpL a w1 n 0))]) (X1 := [.list (intL (zpL a w1 n 0))]) (X2 := [.list (intL (zpL a w1 n 0)), .list (intL (zpL a w2 n 0))]) (turn_list (xs := [.str w1, .str w2]) rfl rfl) (bt1 (set_local rfl)) ⟨rfl, rfl⟩ (way_ev rfl rfl ⟨as, a2⟩ hz ok2 s2) ⟨Nat.succ_ne_zero _, Nat.le_of_ble_eq_true rfl⟩ ?_
    exact Cm.done rfl (turn_list_end (xs := [.str w1, .str w2]) rfl rfl)
  refine ⟨[("two", .str b), ("more", .int m), ("ways", .loc 2)], [.any, .cell (some (.str a)), .list [.str w1, .str w2]] ++ .list (intL [(zpL a w1 n 0).sum, (zpL a w2 n 0).sum]) :: [.list (intL (zpL a w1 n 0)), .list (intL (zpL a w2 n 0))], ?_, ?_⟩
  · refine Exs.cons (L1 := [("two", .str b), ("more", .int m)]) (Ex.set (v := .int m) rfl (Ev.bin (len_ev rfl rfl (Ev.name (nm_local rfl rfl)) fb rfl) (len_ev rfl rfl (Ev.name (nm_cell rfl rfl rfl)) fa hn) (by rw [← hm, ← hn]; rfl)) (set_local rfl)) ?_
    refine Exs.cons (L1 := [("two", .str b), ("more", .int m), ("ways", .loc 2)]) (Ex.set (v := .loc 2) (H1 := [.any, .cell (some (.str a)), .list [.str w1, .str w2]]) rfl (Ev.list (vs := [.str w1, .str w2]) (H1 := [.any, .cell (some (.str a))]) (Es.cons rfl (Ev.to_ (Ev.name (nm_local rfl rfl)) (len_ev rfl rfl (Ev.name (nm_cell rfl rfl rfl)) fa hn) rfl (few_le fb) hw1)
      (Es.cons rfl (Ev.from_ (Ev.name (nm_local rfl rfl)) (Ev.name (nm_local rfl rfl)) (few_le fb) hw2) Es.nil)) (Nat.le_of_ble_eq_true rfl)) (set_local rfl)) ?_
    refine Exs.ret (Ex.ret (Ev.bin (Ev.bin Ev.int (Ev.name (nm_local rfl rfl)) mul2) (Ev.bi (vs := [.loc 3]) rfl rfl rfl rfl (Es.cons rfl (Ev.listComp (E' := farOE) (H1 := [.any, .cell (some (.str a)), .list [.str w1, .str w2]]) rfl (Sc.of rfl (Ev.name (nm_local rfl rfl)) (it_list (xs := [.str w1, .str w2]) rfl)) rfl cm) Es.nil) (.minL (x := (zpL a w1 n 0).sum) (r := [(zpL a w2 n 0).sum]) rfl)) rfl))
  · exact .cons (by intro z; cases z) (.cons (by intro z; cases z) (.cons (by intro z; cases z) (.cons (by intro z; cases z) (.cons (by intro z; cases z) (.cons (by intro z; cases z) .nil)))))
theorem far_fn {a b : Str} (fa : few a = true) (fb : few b = true) (h : (if b.cps.size < a.cps.size then goodW b a else goodW a b) = true) : ∃ H', Fn_ farF 6 [.str a, .str b] [.any] (.int (if b.cps.size < a.cps.size then farW b a else farW a b)) H' ∧ NoCode H' := by
  have run : ∀ {x y d L H'}, Ex farE (nth farF.body 0) [("two", .str b)] [.any, .cell (some (.str a))] .next [("two", .str y)] [.any, .cell (some (.str x))] → Exs farE (farF.body.drop 1) [("two", .str y)] [.any, .cell (some (.str x))] (.ret (.int d)) L H' → Fn_ farF 6 [.str a, .str b] [.any] (.int d) H' := fun h0 h1 =>
    Fn_.run (L1 := [("two", .str b)]) (H1 := [.any, .cell (some (.str a))]) rfl rfl (Exs.cons h0 h1)
  by_cases hz : b.cps.size < a.cps.size
  · rw [if_pos hz] at h ⊢
    obtain ⟨L, H', e, n⟩ := far_core h
    exact ⟨H', run (Ex.ite (z := true) (Ts.cmp rfl (len_ev rfl rfl (Ev.name (nm_local rfl rfl)) fb rfl) (len_ev rfl rfl (Ev.name (nm_cell rfl rfl rfl)) fa rfl) (congrArg some (decide_eq_true (Int.ofNat_lt.mpr hz)))) (Exs.cons (Ex.swap (L2 := [("two", .str a)]) (H2 := [.any, .cell (some (.str b))]) (by decide) (by decide) rfl (Es.cons rfl (Ev.name (nm_local rfl rfl)) (Es.cons rfl (Ev.name (nm_cell rfl rfl rfl)) Es.nil)) ((if_neg fun z => nomatch (show some NameKind.cell = some NameKind.local from z.1)).trans rfl)) Exs.nil)) e, n⟩
  · rw [if_neg hz] at h ⊢
    obtain ⟨L, H', e, n⟩ := far_core h
    exact ⟨H', run (Ex.ite (z := false) (Ts.cmp rfl (len_ev rfl rfl (Ev.name (nm_local rfl rfl)) fb rfl) (len_ev rfl rfl (Ev.name (nm_cell rfl rfl rfl)) fa rfl) (congrArg some (decide_eq_false fun z => hz (Int.ofNat_lt.mp z)))) Exs.nil) e, n⟩
/-- how far two words lie apart -/
noncomputable def dist (a b : Str) : Int := if b.cps.size < a.cps.size then farW b a else farW a b
noncomputable def goodL (a b : Str) (k j d : Int) : Bool := decide (cntN (preT a b) (fun i => i + 1) 3 0 = some k) && (few (fm a k) && few (fm b k)) && decide (cntN (postT (fm a k) (fm b k)) (fun i => i - 1) 3 0 = some j) && (few (tl (fm a k) j) && few (tl (fm b k) j)) &&
  (if any_ (tl (fm a k) j) && any_ (tl (fm b k) j) then decide ((tl (fm a k) j).cps.size ≤ 40 ∧ (tl (fm b k) j).cps.size ≤ 40) && (if (tl (fm b k) j).cps.size < (tl (fm a k) j).cps.size then goodM (tl (fm b k) j) (tl (fm a k) j) 4 && decide (valM (tl (fm b k) j) (tl (fm a k) j) = d) else goodM (tl (fm a k) j) (tl (fm b k) j) 4 && decide (valM (tl (fm a k) j) (tl (fm b k) j) = d))
    else decide (2 * (((tl (fm a k) j).cps.size : Int) + (tl (fm b k) j).cps.size) = d))
noncomputable def goodD (a b : Str) : Bool := (few a && few b && (if b.cps.size < a.cps.size then goodW b a else goodW a b)) && [0, 1, 2, 3, 4].any fun d => decide (dist a b = d) && decide (0 ≤ d ∧ d ≤ 4) && (if a = b then decide (0 = d) else [0, 1].any fun k => [0, -1].any fun j => goodL a b k j d)
theorem lev_fn {a b : Str} {k j D : Int} (ne : a ≠ b) (fa : few a = true) (fb : few b = true) (h : goodL a b k j D = true) : ∃ H', Fn_ levF 6 [.str a, .str b, .int 4] [.any] (.int D) H' ∧ NoCode H' := by
  unfold goodL at h
  obtain ⟨h, h5⟩ := (Bool.and_eq_true _ _).mp h
  obtain ⟨h, h4⟩ := (Bool.and_eq_true _ _).mp h
  obtain ⟨h, h3⟩ := (Bool.and_eq_true _ _).mp h
  obtain ⟨h1, h2⟩ := (Bool.and_eq_true _ _).mp h
  obtain ⟨f1, f2⟩ := (Bool.and_eq_true _ _).mp h2
  obtain ⟨f3, f4⟩ := (Bool.and_eq_true _ _).mp h4
  have go := fun {d : Int} {H' : CH} => lev_a (d := d) (H := [.any]) (H' := H') (m := 4) ne fa fb (of_decide_eq_true h1) f1 f2 (of_decide_eq_true h3)
  clear h1 h3 h2 h4
  generalize tl (fm a k) j = a2 at *
  generalize tl (fm b k) j = b2 at *
  split at h5
  · rename_i ha
    obtain ⟨ha, hb⟩ := (Bool.and_eq_true _ _).mp ha
    obtain ⟨hz, h5⟩ := (Bool.and_eq_true _ _).mp h5
    obtain ⟨za, zb⟩ := of_decide_eq_true hz
    obtain ⟨L, H', e, n⟩ := lev_c (m := 4) (k := k) (p := j) f3 f4 ha hb za zb (d := D) (by
      split at h5
      · rename_i hl; rw [if_pos hl]; obtain ⟨x, y⟩ := (Bool.and_eq_true _ _).mp h5; exact ⟨x, of_decide_eq_true y⟩
      · rename_i hl; rw [if_neg hl]; obtain ⟨x, y⟩ := (Bool.and_eq_true _ _).mp h5; exact ⟨x, of_decide_eq_true y⟩)
    exact ⟨H', go ⟨L, e⟩, n⟩
  · rename_i hz
    have e := lev_b (m := 4) (k := k) (p := j) (H := [.any]) f3 f4 (by
      cases ea : any_ a2 with
      | false => exact .inl rfl
      | true => cases eb : any_ b2 with
        | false => exact .inr ⟨rfl, rfl⟩
        | true => rw [ea, eb] at hz; exact absurd rfl hz)
    rw [of_decide_eq_true h5] at e
    exact ⟨[.any], go ⟨_, e⟩, .cons (by intro z; cases z) .nil⟩
theorem lev_same {a : Str} {d : Int} : Fn_ levF 6 [.str a, .str a, .int d] [.any] (.int 0) [.any] :=
  Fn_.run (L1 := [("a", .str a), ("b", .str a), ("max_cost", .int d)]) (H1 := [.any]) (L2 := [("a", .str a), ("b", .str a), ("max_cost", .int d)]) rfl rfl (Exs.ret (Ex.ite (z := true) (Ts.cmp rfl (Ev.name (nm_local rfl rfl)) (Ev.name (nm_local rfl rfl)) (str_eq (decide_eq_true rfl))) (Exs.ret (Ex.ret Ev.int))))
noncomputable def ws0 : List Str := [⟨#[]⟩, ⟨#[97]⟩, ⟨#[65]⟩, ⟨#[98]⟩, ⟨#[66]⟩]
noncomputable def ws1 : List Str := [⟨#[97, 97]⟩, ⟨#[97, 65]⟩, ⟨#[97, 98]⟩, ⟨#[97, 66]⟩]
noncomputable def ws2 : List Str := [⟨#[65, 97]⟩, ⟨#[65, 65]⟩, ⟨#[65, 98]⟩, ⟨#[65, 66]⟩]
noncomputable def ws3 : List Str := [⟨#[98, 97]⟩, ⟨#[98, 65]⟩, ⟨#[98, 98]⟩, ⟨#[98, 66]⟩]
noncomputable def ws4 : List Str := [⟨#[66, 97]⟩, ⟨#[66, 65]⟩, ⟨#[66, 98]⟩, ⟨#[66, 66]⟩]
noncomputable def wlist : List Str := ws0 ++ (ws1 ++ (ws2 ++ (ws3 ++ ws4)))
noncomputable def goodR (l : List Str) : Bool := l.all fun a => wlist.all fun b => goodD a b
theorem good0 : goodR ws0 = true := by decide +kernel
theorem good1 : goodR ws1 = true := by decide +kernel
theorem good2 : goodR ws2 = true := by decide +kernel
theorem good3 : goodR ws3 = true := by decide +kernel
theorem good4 : goodR ws4 = true := by decide +kernel
theorem wd_mem : ∀ a ∈ List.range 5, ∀ b ∈ List.range 5, sg a ++ sg b ∈ wlist := by decide +kernel
theorem wd_good {a b : Str} (ha : a ∈ wlist) (hb : b ∈ wlist) : goodD a b = true := by
  have go : ∀ {l : List Str}, goodR l = true → a ∈ l → goodD a b = true := fun h m => List.all_eq_true.mp (List.all_eq_true.mp h a m) b hb
  rcases List.mem_append.mp ha with m | m
  · exact go good0 m
  rcases List.mem_append.mp m with m | m
  · exact go good1 m
  rcases List.mem_append.mp m with m | m
  · exact go good2 m
  rcases List.mem_append.mp m with m | m
  · exact go good3 m
  · exact go good4 m
theorem dist_ok (u v : Int) : 0 ≤ dist (wd u) (wd v) ∧ dist (wd u) (wd v) ≤ 4 ∧ ∀ H, codeAt H 0 = none → Fn_ levF 6 [.str (wd u), .str (wd v), .int 4] H (.int (dist (wd u) (wd v))) H ∧ Fn_ farF 6 [.str (wd u), .str (wd v)] H (.int (dist (wd u) (wd v))) H := by
  have m5 : ∀ x : Int, (x.fmod 5).toNat ∈ List.range 5 := fun x => List.mem_range.mpr (by have := fmod5 x; (first | lia | omega))
  have g : goodD (wd u) (wd v) = true := wd_good (wd_mem _ (m5 _) _ (m5 _)) (wd_mem _ (m5 _) _ (m5 _))
  generalize wd u = a at g ⊢
  generalize wd v = b at g ⊢
  obtain ⟨h, h5⟩ := (Bool.and_eq_true _ _).mp g
  obtain ⟨h, h4⟩ := (Bool.and_eq_true _ _).mp h
  obtain ⟨fa, fb⟩ := (Bool.and_eq_true _ _).mp h
  obtain ⟨d, -, h5⟩ := List.any_eq_true.mp h5
  obtain ⟨h5, h6⟩ := (Bool.and_eq_true _ _).mp h5
  obtain ⟨h5, h7⟩ := (Bool.and_eq_true _ _).mp h5
  have hd := of_decide_eq_true h5
  have far := far_fn fa fb h4
  change ∃ H', Fn_ farF 6 [.str a, .str b] [.any] (.int (dist a b)) H' ∧ NoCode H' at far
  rw [hd] at far ⊢
  obtain ⟨d0, d4⟩ := of_decide_eq_true h7
  refine ⟨d0, d4, fun H hc => ⟨Fn_.loc rfl hc ?_, Fn_.loc rfl hc ?_⟩⟩
  · split at h6
    · rename_i e; subst e; rw [← of_decide_eq_true h6]; exact ⟨_, lev_same, rfl⟩
    · rename_i ne
      obtain ⟨k, -, h6⟩ := List.any_eq_true.mp h6
      obtain ⟨j, -, h6⟩ := List.any_eq_true.mp h6
      obtain ⟨H', e, n⟩ := lev_fn ne fa fb h6; exact ⟨H', e, n.codeAt 0⟩
  · obtain ⟨H', e, n⟩ := far; exact ⟨H', e, n.codeAt 0⟩
end Mine
end

section
set_option maxRecDepth 100000
set_option linter.unusedVariables false
set_option autoImplicit false
namespace Mine
open PySem
local macro_rules | `(tactic| walk_at "lk") => `(tactic| first | assumption | exact lk_eq | (apply lk_ne (by decide); walk_at "lk") | rfl)
local macro_rules | `(tactic| walk_at "hp") => `(tactic| first | assumption | (apply hp_app; walk_at "hp") | (apply hp_new0; rfl) | (apply hp_new; rfl) | (apply hp_set (by first | decide | (first | lia | omega)); walk_at "hp") | (apply hp_self; walk_at "hp"))
local macro_rules | `(tactic| walk_at "nm") => `(tactic| first | (apply nm_local rfl; walk_at "lk") | (apply nm_cell rfl rfl; walk_at "hp") | (apply nm_free rfl rfl; walk_at "hp") | exact nm_num rfl rfl)
local macro_rules | `(tactic| walk_at "st") => `(tactic| first | exact set_local rfl | (apply set_cell rfl rfl (h0 := by decide); walk_at "hp"))
local macro_rules | `(tactic| walk_at "bt") => `(tactic| first | (apply bt1; walk_at "st") | (apply bt2; walk_at "st"; walk_at "st") | (apply bt3; walk_at "hp"; walk_at "st"; walk_at "st"))
local macro_rules | `(tactic| walk_at "gi") => `(tactic| first | assumption | (apply gi_list; walk_at "hp"; (first | assumption | decide | (simp; done)); (first | assumption | rfl)) | (apply gi_tup; walk_at "hp"; (first | assumption | decide | (simp; done)); (first | assumption | rfl)))
local macro_rules | `(tactic| walk_at "ev") => `(tactic| first
  | exact Ev.int | exact Ev.str | exact Ev.bool | exact Ev.dict0
  | (apply Ev.name; walk_at "nm")
  | (apply Ev.sub rfl; walk_at "ev"; walk_at "ev"; walk_at "gi")
  | (apply Ev.neg; walk_at "ev")
  | (apply Ev.bin; walk_at "ev"; walk_at "ev"; first | assumption | rfl)
  | (apply Ev.cmp rfl; walk_at "ev"; walk_at "ev"; first | assumption | rfl))
local macro_rules | `(tactic| walk_at "ts") => `(tactic| first
  | (apply Ts.cmp rfl; walk_at "ev"; walk_at "ev"; first | assumption | rfl))
local macro_rules | `(tactic| walk_at "ex") => `(tactic| first
  | (apply Ex.set rfl; walk_at "ev"; walk_at "st")
  | (apply Ex.ret; walk_at "ev") | exact Ex.brk)

noncomputable def dW (x : Nat → Int) (i j : Nat) : Int := dist (wd (x i)) (wd (x (3 + j)))
noncomputable def H00 (script : List Int) : CH := .list (intL script) :: [.cell none, .cell none, .cell none, .cell none, .cell none, .cell none, .cell none, .cell none]
theorem six {script : List Int} : ∃ x0 x1 x2 x3 x4 x5, (script.take 6 ++ consts).take 6 = [x0, x1, x2, x3, x4, x5] := by
  have hl : ((script.take 6 ++ consts).take 6).length = 6 := by simp [consts]
  generalize (script.take 6 ++ consts).take 6 = l at hl
  rcases l with _ | ⟨a, _ | ⟨b, _ | ⟨c, _ | ⟨d, _ | ⟨e, _ | ⟨f, _ | ⟨g, l⟩⟩⟩⟩⟩⟩⟩ <;> simp at hl
  exact ⟨a, b, c, d, e, f, rfl⟩
/-- what holds once the rows are there -/
structure FA (H : CH) (L : CL) (c : Nat → Option CV) (x : Nat → Int) (ds ac ar n0 : Nat) (cc : Nat → Nat) : Prop where
  C : CellsAt H c
  c2 : c 2 = some (.loc ac)
  c3 : c 3 = some (.loc ar)
  nine : 9 ≤ ds ∧ 9 ≤ ac ∧ 9 ≤ ar ∧ 9 ≤ n0 ∧ ∀ i, i < 3 → 9 ≤ cc i
  draws : H[ds]? = some (.list (intL [x 0, x 1, x 2, x 3, x 4, x 5]))
  calls : H[ac]? = some (.list [.loc (cc 0), .loc (cc 1), .loc (cc 2)])
  call : ∀ i, i < 3 → H[cc i]? = some (.list (intL (callL (x i))))
  rows : H[ar]? = some (.list ((blocks n0 3).map .loc))
  row : ∀ i j, i < 3 → j < 3 → H[Rr n0 i j]? = some (.tup (intL (rowV (dW x) x i j)))
  g : L.lookup ("draws" : Str) = some (.loc ds)
theorem front1 {script : List Int} (hz : script.length ≤ 63) : ∃ (H : CH) (L : CL) (c : Nat → Option CV) (x : Nat → Int) (ds ac ar n0 : Nat) (cc : Nat → Nat), Exs lawE [lawS 0, lawS 1, lawS 2, lawS 3, lawS 4, lawS 5] [("script", .loc 0)] (H00 script) .next L H ∧ FA H L c x ds ac ar n0 cc := by
  obtain ⟨y0, y1, y2, y3, y4, y5, hx⟩ := six (script := script)
  have nc0 : NoCode (H00 script) := by
    unfold H00
    repeat' first | exact NoCode.nil | (apply NoCode.cons (by intro z; cases z))
  have C0 : CellsAt (H00 script) (fun _ => none) := ⟨by simp [H00], fun k h1 h8 => by
    have : k = 1 ∨ k = 2 ∨ k = 3 ∨ k = 4 ∨ k = 5 ∨ k = 6 ∨ k = 7 ∨ k = 8 := by (first | lia | omega)
    rcases this with rfl | rfl | rfl | rfl | rfl | rfl | rfl | rfl <;> rfl⟩
  obtain ⟨Ha, e0, pa, ga, na⟩ := seg_draws (H := H00 script) (script := script) rfl hz hx
  have na := na nc0
  have Ca := C0.pre pa
  have l0 : (H00 script).length = 9 := by simp [H00]
  rw [l0] at e0 ga
  obtain ⟨x, hx0, hx1, hx2, hx3, hx4, hx5⟩ : ∃ x : Nat → Int, x 0 = rem y0 ∧ x 1 = rem y1 ∧ x 2 = rem y2 ∧ x 3 = rem y3 ∧ x 4 = rem y4 ∧ x 5 = rem y5 := ⟨fun k => [rem y0, rem y1, rem y2, rem y3, rem y4, rem y5].getD k 0, rfl, rfl, rfl, rfl, rfl, rfl⟩
  rw [← hx0, ← hx1, ← hx2, ← hx3, ← hx4, ← hx5] at ga
  obtain ⟨L1, hL1⟩ : ∃ L1 : CL, ([("script", .loc 0), ("draws", .loc (9 + 4))] : CL) = L1 := ⟨_, rfl⟩
  have g1 : L1.lookup ("draws" : Str) = some (.loc 13) := by rw [← hL1]; rfl
  rw [hL1] at e0
  obtain ⟨Hb, e1, kb, Cb, gb, nb⟩ := seg_signs (L := L1) Ca
  have nb := nb na
  have gab := kb.keep _ _ (by decide) ga
  have la := Ca.len
  obtain ⟨Hc, e2, pc, gc, nc⟩ := seg_words (L := L1) (sl := Ha.length) (ds := 13) Cb (if_pos rfl) gb g1 gab
  have nc := nc nb
  have lb := Cb.len
  have Cc := Cb.pre pc
  have gac := pre_get' pc gab
  obtain ⟨Hd, e3, kd, Cd, gd, gd0, gd1, gd2, nd⟩ := seg_calls (L := L1.set "words" (.loc Hb.length)) (ds := 13) Cc (lk_ne (by decide) g1) gac
  have nd := nd nc
  have lc := Cc.len
  have gad := kd.keep _ _ (by decide) gac
  have gcd := kd.keep _ _ lb gc
  obtain ⟨He, Le, ce, ar, n0, hc1, hc2⟩ : ∃ (He : CH) (Le : CL) (ce : Nat → Option CV) (ar n0 : Nat), Exs lawE [lawS 4, lawS 5] (L1.set "words" (.loc Hb.length)) Hd .next Le He ∧ Kp Hd He ∧ CellsAt He ce ∧ ce 3 = some (.loc ar) ∧ 9 ≤ ar ∧ 9 ≤ n0 ∧ He[ar]? = some (.list ((blocks n0 3).map .loc)) ∧ (∀ i, i < 3 → ∀ j, j < 3 → He[Rr n0 i j]? = some (.tup (intL (rowV (dW x) x i j)))) ∧
      (∀ y : Str, y ≠ "told" → y ≠ "i" → Le.lookup y = (L1.set "words" (.loc Hb.length)).lookup y) ∧ ce 2 = some (.loc (Hc.length + 1)) := by
    obtain ⟨Le, He, ce, ar, n0, q1, q2, q3, q4, q5, q6, q7, q8, q9, q10⟩ := seg_rows (d := dW x) (x := x) (aw := Hb.length) (ac := Hc.length + 1) (cc := fun i => Hc.length + 2 + i) (L := L1.set "words" (.loc Hb.length)) Cd (if_pos rfl) gcd gd (fun i hi => by
      rcases nat3 hi with rfl | rfl | rfl
      · exact gd0
      · exact gd1
      · exact gd2) ⟨by (first | lia | omega), by (first | lia | omega), fun i hi => by (first | lia | omega)⟩ nd lk_eq (fun i hi j hj H hH => (dist_ok (x i) (x (3 + j))).2.2 H hH)
    exact ⟨He, Le, ce, ar, n0, q1, q2, q3, q4, q5, q6, q7, q8, q9, (q10 2 (by decide) (by decide)).trans (if_pos rfl)⟩
  obtain ⟨ke, Ce, ce3, ar9, n09, grows, grow, gl, ce2⟩ := hc2
  refine ⟨He, Le, ce, x, 13, Hc.length + 1, ar, n0, fun i => Hc.length + 2 + i, Exs.cons e0 (Exs.cons e1 (Exs.cons e2 (Exs.cons e3 hc1))), Ce, ce2, ce3, ⟨by decide, by (first | lia | omega), ar9, n09, fun i hi => by (first | lia | omega)⟩, ke.keep _ _ (by decide) gad, ke.keep _ _ (by (first | lia | omega)) gd, fun i hi => ?_, grows, fun i j hi hj => grow i hi j hj, ?_⟩
  · rcases nat3 hi with rfl | rfl | rfl
    · exact ke.keep _ _ (by (first | lia | omega)) gd0
    · exact ke.keep _ _ (by (first | lia | omega)) gd1
    · exact ke.keep _ _ (by (first | lia | omega)) gd2
  · rw [gl _ (by decide) (by decide)]
    exact lk_ne (by decide) g1
end Mine
end

section
set_option maxRecDepth 100000
set_option linter.unusedVariables false
set_option autoImplicit false
namespace Mine
open PySem
local macro_rules | `(tactic| walk_at "lk") => `(tactic| first | assumption | exact lk_eq | (apply lk_ne (by decide); walk_at "lk") | rfl)
local macro_rules | `(tactic| walk_at "hp") => `(tactic| first | assumption | (apply hp_app; walk_at "hp") | (apply hp_new0; rfl) | (apply hp_new; rfl) | (apply hp_set (by first | decide | (first | lia | omega)); walk_at "hp") | (apply hp_self; walk_at "hp"))
local macro_rules | `(tactic| walk_at "nm") => `(tactic| first | (apply nm_local rfl; walk_at "lk") | (apply nm_cell rfl rfl; walk_at "hp") | (apply nm_free rfl rfl; walk_at "hp") | exact nm_num rfl rfl)
local macro_rules | `(tactic| walk_at "st") => `(tactic| first | exact set_local rfl | (apply set_cell rfl rfl (h0 := by decide); walk_at "hp"))
local macro_rules | `(tactic| walk_at "bt") => `(tactic| first | (apply bt1; walk_at "st") | (apply bt2; walk_at "st"; walk_at "st") | (apply bt3; walk_at "hp"; walk_at "st"; walk_at "st"))
local macro_rules | `(tactic| walk_at "gi") => `(tactic| first | assumption | (apply gi_list; walk_at "hp"; (first | assumption | decide | (simp; done)); (first | assumption | rfl)) | (apply gi_tup; walk_at "hp"; (first | assumption | decide | (simp; done)); (first | assumption | rfl)))
local macro_rules | `(tactic| walk_at "ev") => `(tactic| first
  | exact Ev.int | exact Ev.str | exact Ev.bool | exact Ev.dict0
  | (apply Ev.name; walk_at "nm")
  | (apply Ev.sub rfl; walk_at "ev"; walk_at "ev"; walk_at "gi")
  | (apply Ev.neg; walk_at "ev")
  | (apply Ev.bin; walk_at "ev"; walk_at "ev"; first | assumption | rfl)
  | (apply Ev.cmp rfl; walk_at "ev"; walk_at "ev"; first | assumption | rfl))
local macro_rules | `(tactic| walk_at "ts") => `(tactic| first
  | (apply Ts.cmp rfl; walk_at "ev"; walk_at "ev"; first | assumption | rfl))
local macro_rules | `(tactic| walk_at "ex") => `(tactic| first
  | (apply Ex.set rfl; walk_at "ev"; walk_at "st")
  | (apply Ex.ret; walk_at "ev") | exact Ex.brk)

theorem mem_blocks {n0 r : Nat} (h : r ∈ blocks n0 3) : ∃ i j, i < 3 ∧ j < 3 ∧ r = Rr n0 i j := by
  simp only [blocks, List.mem_append, List.mem_range'_1, List.not_mem_nil, or_false] at h
  unfold Rr
  rcases h with h | h | h
  · exact ⟨0, r - (n0 + 1), by decide, by (first | lia | omega), by (first | lia | omega)⟩
  · exact ⟨1, r - (n0 + 4 + 1), by decide, by (first | lia | omega), by (first | lia | omega)⟩
  · exact ⟨2, r - (n0 + 4 + 4 + 1), by decide, by (first | lia | omega), by (first | lia | omega)⟩
theorem blocks_rr {n0 : Nat} : blocks n0 3 = [Rr n0 0 0, Rr n0 0 1, Rr n0 0 2, Rr n0 1 0, Rr n0 1 1, Rr n0 1 2, Rr n0 2 0, Rr n0 2 1, Rr n0 2 2] := by
  simp [blocks, Rr, List.range'_succ]
theorem hv_of {d : Nat → Nat → Int} {x : Nat → Int} {n0 : Nat} : ∀ i : Nat, i < 3 → (blocks n0 3).filter (fun r => decide ((valR d x n0 r).getD 2 0 = (i : Int))) = List.range' (n0 + 4 * i + 1) 3 := fun i hi => by
  have v : ∀ a b, b < 3 → (valR d x n0 (Rr n0 a b)).getD 2 0 = (a : Int) := fun a b hb => by rw [valR_Rr hb]; rfl
  rw [blocks_rr]
  rcases nat3 hi with rfl | rfl | rfl
  all_goals
    simp only [List.filter_cons, List.filter_nil, v _ 0 (by decide), v _ 1 (by decide), v _ 2 (by decide)]
    simp [Rr, List.range'_succ]
theorem front2 {H : CH} {L : CL} {c : Nat → Option CV} {x : Nat → Int} {ds ac ar n0 : Nat} {cc : Nat → Nat} (A : FA H L c x ds ac ar n0 cc) :
    ∃ (L' : CL) (H' : CH) (T : TP) (s : St) (m : Nat → Nat), Exs lawE [lawS 6, lawS 7, lawS 8, lawS 9, lawS 10, lawS 11, lawS 12, lawS 13] L H .next L' H' ∧ TB T H' ∧ TC T H' c ∧ Fin3 (callC T.x) T.d s m T.w ∧ Inv (callC T.x) T.d s ∧ T.ak = s.ak ∧
      L'.lookup ("held" : Str) = some (.loc T.aH) ∧ L'.lookup ("asked" : Str) = some (.loc T.aK) ∧ L'.lookup ("asks" : Str) = some (.int s.n) := by
  obtain ⟨C, c2, c3, ⟨n1, n2, n3, n4, n5⟩, gd, gc, gcc, gr, grr, g⟩ := A
  have hl := C.len
  obtain ⟨H1, e6, p1, K1⟩ := seg_near (H := H) (L := L)
  obtain ⟨H2, e7, p2, K2⟩ := seg_dear (H := H1) (L := L.set "near" (.loc (H.length + 4)))
  have p12 := p1.trans p2
  have row2 : ∀ r ∈ blocks n0 3, H2[r]? = some (.tup (intL (valR (dW x) x n0 r))) ∧ (valR (dW x) x n0 r).length = 4 := fun r hr => by
    obtain ⟨i, j, hi, hj, rfl⟩ := mem_blocks hr
    exact ⟨by rw [valR_Rr hj]; exact pre_get' p12 (grr i j hi hj), valR_len⟩
  obtain ⟨H3, a, e8, p3, la, b, lb, ga, gb⟩ := seg_ahead (H := H2) (L := (L.set "near" (.loc (H.length + 4))).set "dear" (.loc (H1.length + 5))) (ar := ar) (n0 := n0) (val := valR (dW x) x n0) (C.pre p12) c3 (pre_get' p12 gr) row2 hv_of
  have e9 := seg_held (H := H3) (L := ((L.set "near" (.loc (H.length + 4))).set "dear" (.loc (H1.length + 5))).set "ahead" (.loc a))
  have lh3 : ∀ i, i < 3 → b i < H3.length := fun i hi => lt_of (gb i hi)
  obtain ⟨H4, h4⟩ : ∃ H4, H3 ++ [CO.list [], .list [], .list [], .list [.loc H3.length, .loc (H3.length + 1), .loc (H3.length + 2)]] = H4 := ⟨_, rfl⟩
  have p4 : H3 <+: H4 := by rw [← h4]; exact List.prefix_append _ _
  have gh : H4[H3.length + 3]? = some (.list [.loc H3.length, .loc (H3.length + 1), .loc (H3.length + 2)]) := by rw [← h4]; exact hp_new (k := 3) rfl
  have gh0 : ∀ j, j < 3 → H4[H3.length + j]? = some (.list []) := fun j hj => by
    rw [← h4]
    rcases nat3 hj with rfl | rfl | rfl
    · exact hp_new (k := 0) rfl
    · exact hp_new (k := 1) rfl
    · exact hp_new (k := 2) rfl
  have l4 : H4.length = H3.length + 4 := by rw [← h4]; simp
  rw [h4] at e9
  have e10 := seg_asked (H := H4) (L := (((L.set "near" (.loc (H.length + 4))).set "dear" (.loc (H1.length + 5))).set "ahead" (.loc a)).set "held" (.loc (H3.length + 3)))
  obtain ⟨H5, h5⟩ : ∃ H5, H4 ++ [CO.dict [] 0, .dict [] 0, .dict [] 0, .list [.loc H4.length, .loc (H4.length + 1), .loc (H4.length + 2)]] = H5 := ⟨_, rfl⟩
  have p5 : H4 <+: H5 := by rw [← h5]; exact List.prefix_append _ _
  have gk : H5[H4.length + 3]? = some (.list [.loc H4.length, .loc (H4.length + 1), .loc (H4.length + 2)]) := by rw [← h5]; exact hp_new (k := 3) rfl
  have gk0 : ∀ j, j < 3 → H5[H4.length + j]? = some (.dict [] 0) := fun j hj => by
    rw [← h5]
    rcases nat3 hj with rfl | rfl | rfl
    · exact hp_new (k := 0) rfl
    · exact hp_new (k := 1) rfl
    · exact hp_new (k := 2) rfl
  have l5 : H5.length = H4.length + 4 := by rw [← h5]; simp
  rw [h5] at e10
  have e11 := seg_free (H := H5) (L := ((((L.set "near" (.loc (H.length + 4))).set "dear" (.loc (H1.length + 5))).set "ahead" (.loc a)).set "held" (.loc (H3.length + 3))).set "asked" (.loc (H4.length + 3)))
  have gf : (H5 ++ [CO.list (natL [0, 1, 2])])[H5.length]? = some (.list (natL [0, 1, 2])) := hp_new0 rfl
  have p6 : H5 <+: H5 ++ [CO.list (natL [0, 1, 2])] := List.prefix_append _ _
  have l6 : (H5 ++ [CO.list (natL [0, 1, 2])]).length = H5.length + 1 := by simp
  have e12 := seg_zero (H := H5 ++ [CO.list (natL [0, 1, 2])]) (L := (((((L.set "near" (.loc (H.length + 4))).set "dear" (.loc (H1.length + 5))).set "ahead" (.loc a)).set "held" (.loc (H3.length + 3))).set "asked" (.loc (H4.length + 3))).set "free" (.loc H5.length))
  generalize H5 ++ [CO.list (natL [0, 1, 2])] = H6 at e11 gf p6 l6 e12
  have p46 := p5.trans p6
  have p36 := p4.trans p46
  have p26 := p3.trans p36
  have p16 := p2.trans p26
  have p06 := p1.trans p16
  have ll1 := p1.length_le
  have ll2 := p2.length_le
  have ll3 := p3.length_le
  have lar := lt_of gr
  have lac := lt_of gc
  have lds := lt_of gd
  have lrr : ∀ i j, i < 3 → j < 3 → Rr n0 i j < H.length := fun i j hi hj => lt_of (grr i j hi hj)
  have lcc : ∀ i, i < 3 → cc i < H.length := fun i hi => lt_of (gcc i hi)
  let P : Prm := ⟨a, H3.length + 3, H4.length + 3, H5.length, ds, H.length + 4, H.length + 3, H.length + 2, H1.length + 5, H1.length + 4, H1.length + 3, n0, [H.length, H.length + 1], [H1.length, H1.length + 1, H1.length + 2], [x 0, x 1, x 2, x 3, x 4, x 5], dW x, x⟩
  have l1 : H.length + 4 < H1.length := lt_of K1.inst
  have l2 : H1.length + 5 < H2.length := lt_of K2.inst
  have out : ∀ n, n < H2.length → n ∉ P.K := fun n hn => Prm.out.mpr ⟨by show n ≠ a; (first | lia | omega), by show n ≠ H3.length + 3; (first | lia | omega), by show n ≠ H4.length + 3; (first | lia | omega), by show n ≠ H5.length; (first | lia | omega)⟩
  have lga := lt_of ga
  have S : Sta P := {
    ne := ⟨by show a ≠ H3.length + 3; (first | lia | omega), by show a ≠ H4.length + 3; (first | lia | omega), by show a ≠ H5.length; (first | lia | omega), by show H3.length + 3 ≠ H4.length + 3; (first | lia | omega), by show H3.length + 3 ≠ H5.length; (first | lia | omega), by show H4.length + 3 ≠ H5.length; (first | lia | omega)⟩
    nine := ⟨by show 9 ≤ a; (first | lia | omega), by show 9 ≤ H3.length + 3; (first | lia | omega), by show 9 ≤ H4.length + 3; (first | lia | omega), by show 9 ≤ H5.length; (first | lia | omega)⟩
    ds := out _ (by show ds < _; (first | lia | omega))
    near := ⟨out _ (by show H.length + 4 < _; (first | lia | omega)), out _ (by show H.length + 3 < _; (first | lia | omega)), out _ (by show H.length + 2 < _; (first | lia | omega)), fun t ht => by
      have ht : t ∈ [H.length, H.length + 1] := ht
      simp only [List.mem_cons, List.not_mem_nil, or_false] at ht
      exact out _ (by (first | lia | omega))⟩
    dear := ⟨out _ (by show H1.length + 5 < _; (first | lia | omega)), out _ (by show H1.length + 4 < _; (first | lia | omega)), out _ (by show H1.length + 3 < _; (first | lia | omega)), fun t ht => by
      have ht : t ∈ [H1.length, H1.length + 1, H1.length + 2] := ht
      simp only [List.mem_cons, List.not_mem_nil, or_false] at ht
      exact out _ (by (first | lia | omega))⟩
    rows := fun i j hi hj => out _ (by have := lrr i j hi hj; show Rr n0 i j < _; (first | lia | omega))
    xs6 := rfl }
  have X : FxH P H6 := ⟨pre_get' p06 gd, (K1.pre p16 : KeysAt H6 (H.length + 4) nearK (H.length + 3) (H.length + 2) [H.length, H.length + 1]), (K2.pre p26 : KeysAt H6 (H1.length + 5) dearK (H1.length + 4) (H1.length + 3) [H1.length, H1.length + 1, H1.length + 2]), fun i j hi hj => pre_get' p06 (grr i j hi hj)⟩
  have B0 : LpH P st0 H6 := ⟨X, ⟨b, pre_get' p36 ga, fun i hi => ⟨Prm.out.mpr ⟨by have := lb i hi; show b i ≠ a; (first | lia | omega), by have := lh3 i hi; show b i ≠ H3.length + 3; (first | lia | omega), by have := lh3 i hi; show b i ≠ H4.length + 3; (first | lia | omega), by have := lh3 i hi; show b i ≠ H5.length; (first | lia | omega)⟩, pre_get' p36 (gb i hi)⟩⟩,
    ⟨fun j => H3.length + j, pre_get' p46 gh, fun j hj => ⟨Prm.out.mpr ⟨by show H3.length + j ≠ a; (first | lia | omega), by show H3.length + j ≠ H3.length + 3; (first | lia | omega), by show H3.length + j ≠ H4.length + 3; (first | lia | omega), by show H3.length + j ≠ H5.length; (first | lia | omega)⟩, pre_get' p46 (gh0 j hj), by show 9 ≤ H3.length + j; (first | lia | omega)⟩⟩,
    ⟨fun j => H4.length + j, pre_get' p6 gk, fun j hj => ⟨Prm.out.mpr ⟨by show H4.length + j ≠ a; (first | lia | omega), by show H4.length + j ≠ H3.length + 3; (first | lia | omega), by show H4.length + j ≠ H4.length + 3; (first | lia | omega), by show H4.length + j ≠ H5.length; (first | lia | omega)⟩, ⟨0, pre_get' p6 (gk0 j hj)⟩, by show 9 ≤ H4.length + j; (first | lia | omega)⟩⟩, gf⟩
  have N0 : LpN P st0.n ((((((L.set "near" (.loc (H.length + 4))).set "dear" (.loc (H1.length + 5))).set "ahead" (.loc a)).set "held" (.loc (H3.length + 3))).set "asked" (.loc (H4.length + 3))).set "free" (.loc H5.length) |>.set "asks" (.int ((0 : Nat) : Int))) :=
    ⟨by walk_at "lk", by walk_at "lk", by walk_at "lk", by walk_at "lk", by walk_at "lk", by walk_at "lk", by walk_at "lk", by walk_at "lk"⟩
  obtain ⟨s, L', H', w, I, hf, B', N', u⟩ := lp_all S 10 st0 _ H6 rfl inv0 B0 N0
  obtain ⟨m, wf, F⟩ := I.fin hf
  obtain ⟨X', _, ⟨h', a1, a2⟩, ⟨k', b1, b2⟩, _⟩ := B'
  obtain ⟨ep, hep⟩ : ∃ ep : Nat → Nat, ∀ j, j < 3 → H'[k' j]? = some (.dict (onesL (s.ak j)) (ep j)) := by
    obtain ⟨x0, y0⟩ := (b2 0 (by decide)).2.1
    obtain ⟨x1, y1⟩ := (b2 1 (by decide)).2.1
    obtain ⟨x2, y2⟩ := (b2 2 (by decide)).2.1
    refine ⟨fun j => if j = 0 then x0 else if j = 1 then x1 else x2, fun j hj => ?_⟩
    rcases nat3 hj with rfl | rfl | rfl
    · exact y0
    · exact y1
    · exact y2
  have kp : ∀ n o, n < H2.length → H6[n]? = some o → H'[n]? = some o := fun n o hn e => u.keep n o (out n hn) e
  refine ⟨L', H', ⟨ac, ar, n0, H3.length + 3, H4.length + 3, cc, h', k', ep, dW x, x, wf, s.ak⟩, s, m, Exs.cons e6 (Exs.cons e7 (Exs.cons e8 (Exs.cons e9 (Exs.cons e10 (Exs.cons e11 (Exs.cons e12 (Exs.cons (Ex.while_ w) Exs.nil))))))), ?_, ?_, F, I, rfl, N'.held, N'.asked, N'.asks⟩
  · exact ⟨kp _ _ (by show ar < _; (first | lia | omega)) (pre_get' p06 gr), fun i j hi hj => X'.rows i j hi hj, kp _ _ (by show ac < _; (first | lia | omega)) (pre_get' p06 gc), fun i hi => kp _ _ (by have := lcc i hi; show cc i < _; (first | lia | omega)) (pre_get' p06 (gcc i hi)), a1, fun j hj => by
      have := (a2 j hj).2.1
      unfold heldR heldI at this
      rw [F.hd j hj] at this
      exact this, b1, hep, ⟨n3, n2, n4, by show 9 ≤ H3.length + 3; (first | lia | omega), by show 9 ≤ H4.length + 3; (first | lia | omega), fun i hi => ⟨n5 i hi, (a2 i hi).2.2, (b2 i hi).2.2⟩⟩⟩
  · have C6 := C.pre p06
    exact ⟨⟨Nat.le_trans C6.len u.len, fun k h1 h8 => kp _ _ (by (first | lia | omega)) (C6.at_ k h1 h8)⟩, c2, c3⟩
theorem pure_law (script : List Int) (h : script.length ≤ 63) : ∃ H', Fn_ lawF 7 [.loc 0] [.list (script.map .int)] (.bool true) H' := by
  obtain ⟨H1, L1, c, x, ds, ac, ar, n0, cc, e1, A⟩ := front1 h
  obtain ⟨L2, H2, T, s, m, e2, B, C, F, I, hak, g1, g2, g3⟩ := front2 A
  obtain ⟨L3, H3, e3⟩ := tail_run B C F I hak g1 g2 g3
  have body : Exs lawE lawF.body [("script", .loc 0)] (H00 script) (.ret (.bool true)) L3 H3 := Exs.append e1 (Exs.append e2 e3)
  exact ⟨H3, Fn_.run (L1 := [("script", .loc 0)]) (H1 := H00 script) rfl rfl body⟩
end Mine
end

open PySem PySem.W PySem.W.X PySem.W.ZRun PyProof.Rows
set_option Elab.async false
set_option maxRecDepth 100000
set_option maxHeartbeats 0
namespace Mine
theorem run_law2 {prog : Program} {w : World} {s₁ : Shared} {mg mb mN : Str → Option Value} {script : List Int} {vals : List Value} {m : Nat} {Q : Value → Shared → Prop}
    (K : Base prog w s₁.heap theT mg mb mN) (hsz : s₁.heap.objs.size = 110) (g91 : s₁.heap.get? 91 = some { cls := .none, data := .fields #[] })
    (hl : s₁.heap.get? 109 = some { cls := .type "list", data := .seq (List.toArray vals) m }) (hi : IntsAre vals script) (hA : OkA 7 callerA)
    (hlaw : ∃ H', Fn_ lawF 7 [.loc 0] [.list (script.map .int)] (.bool true) H')
    (q : ∀ ρ H h tk, SR s₁.heap theT ρ H h → Q (.bool true) { s₁ with heap := h, toks := tk }) : wpAny (model prog w) callerA (call (.ref 108) [.ref 109]) Q Fx s₁ :=
  hlaw.elim fun _ hn => run_law K hsz g91 hl hi hA (hn ⟨prog, w, s₁.heap, mg, mb, mN, K⟩) q
local macro_rules | `(tactic| walk_at "fnobj1") => `(tactic| exact fnObj_of (by assumption) rfl (by kernel_rfl) (by kernel_rfl) rfl rfl rfl rfl rfl rfl (vals1 rfl fun _ => rfl) (by decide +kernel) rfl rfl (by decide) (by decide))
local macro_rules | `(tactic| walk_at "fnobj2") => `(tactic| exact fnObj_of (by assumption) rfl (by kernel_rfl) (by kernel_rfl) rfl rfl rfl rfl rfl rfl (vals2 rfl fun _ _ => rfl) (by decide +kernel) rfl rfl (by decide) (by decide))
local macro_rules | `(tactic| walk_at "fnobj3") => `(tactic| exact fnObj_of (by assumption) rfl (by kernel_rfl) (by kernel_rfl) rfl rfl rfl rfl rfl rfl (vals3 rfl fun _ _ _ => rfl) (by decide +kernel) rfl rfl (by decide) (by decide))
theorem rw_eq : PySem.Challenge.rw_pe0120_01 = { prog := pwS, name := (PySem.Str.ofString "law"), about := [(PySem.Str.ofString "add_callers")], foot := 5, most := some 63, bound := none, writes := false } := by rfl
theorem lk_go {α : Type} {f x : Str} {y g : α} {l : List (Str × α)} {P : Prop} (h : ((x, y) :: l).lookup f = some g) (a : f = x → y = g → P) (b : l.lookup f = some g → P) : P := by
  rw [List.lookup_cons] at h
  cases hb : f == x with
  | true => rw [hb] at h; exact a (beq_iff_eq.mp hb) (Option.some.inj h)
  | false => rw [hb] at h; exact b h
section
variable {prog : Program} {w : World} {P : Params} {h : Heap} {mg mb : Str → Option Value}
theorem top_gl (KX : (topK P).In h) (g : h.Ns mainGlobals mg) (x : Str) {v : Option Value} (e : (match (topK P).lookup 3 with
    | some o => match o.data with
      | .dict es _ => nsFind es x
      | _ => none
    | none => none) = v) : mg x = v := ns_val g (KX 3 _ rfl) rfl x e
theorem fns_ok (KX : (topK P).In h) (g : h.Ns mainGlobals mg) (x : Str) (f : Fn) (e : theT.fns.lookup x = some f) : FnOk h mg x f := by
  have fo : ∀ {x y : Str} {f f' : Fn}, x = y → f' = f → FnObj h f' → mg y = some (.ref f'.addr) → FnOk h mg x f := fun e e' F z => by subst e e'; exact { toFnObj := F, at_ := z }
  refine lk_go e (fun a b => fo a b (by walk_at "fnobj2") (top_gl KX g _ rfl)) fun e => ?_
  refine lk_go e (fun a b => fo a b (by walk_at "fnobj1") (top_gl KX g _ rfl)) fun e => ?_
  refine lk_go e (fun a b => fo a b (by walk_at "fnobj2") (top_gl KX g _ rfl)) fun e => ?_
  refine lk_go e (fun a b => fo a b (by walk_at "fnobj2") (top_gl KX g _ rfl)) fun e => ?_
  refine lk_go e (fun a b => fo a b (by walk_at "fnobj3") (top_gl KX g _ rfl)) fun e => ?_
  refine lk_go e (fun a b => fo a b (by walk_at "fnobj2") (top_gl KX g _ rfl)) fun e => ?_
  refine lk_go e (fun a b => fo a b (by walk_at "fnobj2") (top_gl KX g _ rfl)) fun e => ?_
  refine lk_go e (fun a b => fo a b (by walk_at "fnobj2") (top_gl KX g _ rfl)) fun e => ?_
  refine lk_go e (fun a b => fo a b (by walk_at "fnobj3") (top_gl KX g _ rfl)) fun e => ?_
  exact lk_go e (fun a b => fo a b (by walk_at "fnobj1") (top_gl KX g _ rfl)) fun e => by cases e
theorem nums_ok (KX : (topK P).In h) (g : h.Ns mainGlobals mg) (x : Str) (i : Int) (e : theT.nums.lookup x = some i) : ∃ t, mg x = some (.int i t) := by
  have fo : ∀ {x y : Str} {i j : Int} {t : Nat}, x = y → j = i → mg y = some (.int j t) → ∃ t, mg x = some (.int i t) := fun {x y i j t} e e' z => by subst e e'; exact ⟨t, z⟩
  exact lk_go e (fun a b => fo a b (top_gl KX g _ rfl)) fun e => lk_go e (fun a b => fo a b (top_gl KX g _ rfl)) fun e => lk_go e (fun a b => fo a b (top_gl KX g _ rfl)) fun e => by cases e
noncomputable def topN (P : Params) : Str → Option Value := match (topK P).lookup 37 with
  | some o => match o.data with
    | .dict es _ => nsFind es
    | _ => fun _ => none
  | none => fun _ => none
theorem cls_ok (KX : (topK P).In h) : ClBase h theT (topN P) where
  cls := ⟨⟨_, _, _, _, _, _, _, _, _, _, _, _, KX 38 _ rfl⟩, ns_made (KX 37 _ rfl) rfl rfl⟩
  ga := rfl
  gx := rfl
  sa := rfl
  fld := rfl
  cmp := rfl
  cmpO := by walk_at "fnobj3"
  cmpC := ⟨_, KX 35 _ rfl, rfl⟩
theorem ini_ok (KX : (topK P).In h) : InitOk h (topN P) iniF where
  at_ := rfl
  fo := by walk_at "fnobj2"
  cls := ⟨_, KX 28 _ rfl, rfl⟩
  body := ⟨_, _, _, _, rfl⟩
  ps := rfl
  k1 := rfl
  k2 := rfl
  nc := by decide +kernel
theorem lam_ok (KX : (topK P).In h) (g : h.Ns mainGlobals mg) : LamBase h mg where
  hd := ⟨_, _, _, _, _, _, _, _, _, KX 95 _ rfl, rfl, rfl, rfl, rfl, rfl, rfl, rfl, rfl, by decide⟩
  bi := ⟨4, _, top_gl KX g _ rfl, by decide, by decide, by decide, KX 4 _ rfl, rfl, rfl, rfl⟩
theorem base_of (KX : (topK P).In h) (g : h.Ns mainGlobals mg) (b : h.Ns builtinsNs mb) (lim : h.NoLimit) (hb : ∀ x : Str, x ≠ "__name__" → mb x = bootBuiltins x) : Base prog w h theT mg mb (topN P) := by
  have bs : Bs h theT mg mb := ⟨g, b, lim, nums_ok KX g⟩
  have bi : ∀ {x y : Str} {f f' : BN} {fv : Value}, x = y → f' = f → mg y = none → y ≠ "__name__" → bootBuiltins y = some fv → Callable prog w h theT fv → BiOK prog w h theT f' fv → ∃ fv, (mg x = some fv ∨ (mg x = none ∧ mb x = some fv)) ∧ Callable prog w h theT fv ∧ BiOK prog w h theT f fv :=
    fun {x y f f' fv} e e' z n q c k => by subst e e'; exact ⟨fv, .inr ⟨z, (hb _ n).trans q⟩, c, k⟩
  refine ⟨{ toBs := bs, fns := fns_ok KX g, bis := fun x f _ e => ?_ }, lam_ok KX g, cls_ok KX, .inr ⟨top_gl KX g _ rfl, (hb _ (by decide)).trans rfl⟩⟩
  refine lk_go e (fun a b => bi a b (top_gl KX g _ rfl) (by decide) rfl (callable_builtin _) bi_len) fun e => ?_
  refine lk_go e (fun a b => bi a b (top_gl KX g _ rfl) (by decide) rfl (callable_type _) bi_range) fun e => ?_
  refine lk_go e (fun a b => bi a b (top_gl KX g _ rfl) (by decide) rfl (callable_type _) bi_list) fun e => ?_
  refine lk_go e (fun a b => bi a b (top_gl KX g _ rfl) (by decide) rfl (callable_builtin _) bi_min) fun e => ?_
  refine lk_go e (fun a b => bi a b (top_gl KX g _ rfl) (by decide) rfl (callable_builtin _) bi_max) fun e => ?_
  refine lk_go e (fun a b => bi a b (top_gl KX g _ rfl) (by decide) rfl (callable_builtin _) bi_sum) fun e => ?_
  refine lk_go e (fun a b => bi a b (top_gl KX g _ rfl) (by decide) rfl (callable_builtin _) bi_sorted) fun e => ?_
  exact lk_go e (fun a b => by subst a b; exact ⟨_, .inl (top_gl KX g _ rfl), callable_cls (cls_ok KX).cls (by decide) (by decide), bi_comp bs (cls_ok KX) (ini_ok KX)⟩) fun e => by cases e
end
end Mine
open Mine
local macro_rules | `(tactic| walk_at "fnobj1") => `(tactic| exact fnObj_of (by assumption) rfl (by kernel_rfl) (by kernel_rfl) rfl rfl rfl rfl rfl rfl (vals1 rfl fun _ => rfl) (by decide +kernel) rfl rfl (by decide) (by decide))
local macro_rules | `(tactic| walk_at "fnobj2") => `(tactic| exact fnObj_of (by assumption) rfl (by kernel_rfl) (by kernel_rfl) rfl rfl rfl rfl rfl rfl (vals2 rfl fun _ _ => rfl) (by decide +kernel) rfl rfl (by decide) (by decide))
local macro_rules | `(tactic| walk_at "fnobj3") => `(tactic| exact fnObj_of (by assumption) rfl (by kernel_rfl) (by kernel_rfl) rfl rfl rfl rfl rfl rfl (vals3 rfl fun _ _ _ => rfl) (by decide +kernel) rfl rfl (by decide) (by decide))
theorem PySem.Challenge.cw_pe0120_01_holds : PySem.Challenge.rw_pe0120_01.Holds := by
  rw [rw_eq]
  w_on; o_law
  refine holds_openX (q := viewS) (loose := []) (Xt := topXt) (XP := XL viewS []) (Yf := obsZ topAs) (Ya := valZ topK 109 343) (N := 1402) left (fun s e => xl_of s (Bool.and_eq_true_iff.mp e).1) XL.keeps (by rfl) (by rfl) (by rfl)
    (fun s e => recFacts_of (Bool.and_eq_true_iff.mp e).2) (by rfl) (by first | assumption | decide +kernel) (by decide +kernel) ⟨rfl, rfl, rfl, rfl, rfl, by decide +kernel⟩ ?hw ?hc
  (case hw => refine ⟨[.list []], ?_, ?_⟩ <;> decide +kernel)
  intro w s₀ s₁ mg mb G y fa o pm cd doc dV kV ho hd hcd hD hmg hg args vals as L hpre hlay hrd hwl hlo
  obtain ⟨-, ZI, ZN, -⟩ := z_facts (K := topK) (fun P => rfl) y
  have KX : (topK w.params).In s₁.heap := InK.keeps w s₀.heap s₁.heap ZI (Laid.keeps L)
  refine Ground.open G ?_
  intro T B D TE TW
  wrow_args hpre hlay hrd hwl hlo
  obtain ⟨hat, hsz⟩ := script_at L
  rw [ZN] at hat hsz
  subst hat
  obtain rfl : fa = 108 := by
    have := (show mg ("law" : Str) = some (.ref fa) from hmg).symm.trans (top_gl KX T.g _ rfl)
    cases this
    rfl
  clear hmg hcd hD ho hd
  have base : Base pwS w s₁.heap theT mg mb (topN w.params) := base_of KX T.g T.b T.nolimit T.builtins
  have hobj := script_obj L ‹_›
  refine wpAny_mono (run_law2 base hsz (KX 91 _ rfl) hobj ‹IntsAre _ _› ⟨rfl, by decide, by decide⟩ (pure_law _ (by (first | lia | omega))) (Q := fun v s' => GoodWG _ _ _ _ s₁ (.ok (.ret v)) s') fun ρ H h tk S => ?_) (fun _ _ q => q) fun _ _ q => q.elim
  refine ⟨.inl ⟨_, _, [], rfl, fun _ => rfl, ReadsW.bool true, ?_, fun _ => ⟨List.nodup_nil, fun _ hm => (nomatch hm)⟩⟩, oldK_of S ⟨⟨_, _, KX 95 _ rfl, rfl, rfl, rfl⟩, KX 91 _ rfl⟩, rfl, .of_eq hg⟩
  wrow_post
