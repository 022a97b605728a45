import PyProof.Rows.All
import Wide.All
import OpenK.AllK
import Wide.FinOn
import PySem.Challenge.RW_dm0026_08
open PySem PySem.W PyProof.Rows
set_option Elab.async false
set_option maxRecDepth 100000
set_option maxHeartbeats 8000000
set_option linter.unusedVariables false
namespace Mine
open_top hd08 for PySem.Challenge.rw_dm0026_08
end Mine
set_option autoImplicit false
set_option genSizeOf false
set_option genSizeOfSpec false
set_option genInjectivity false
set_option compiler.extract_closed false
namespace Mine
open PySem PySem.W PySem.Calls PyProof.Rows PyProof.V PySem.Spec

inductive Bi where
  | len | abs | min | max | sorted | round | isinstance | sum
noncomputable def Bi.id : Bi → String
  | .len => "len" | .abs => "abs" | .min => "min" | .max => "max" | .sorted => "sorted" | .round => "round" | .isinstance => "isinstance" | .sum => "sum"
inductive Ty where
  | int | float | tuple | list | range | str | bool | type
  deriving DecidableEq
noncomputable def Ty.name : Ty → String
  | .int => "int" | .float => "float" | .tuple => "tuple" | .list => "list" | .range => "range" | .str => "str" | .bool => "bool" | .type => "type"

inductive AV where
  | none
  | bool (b : Bool)
  | int (i : Int)
  | float (x : UInt64)
  | str (s : Str)
  | typ (t : Ty)
  | bi (b : Bi)
  | fn (k : Nat)
  | tup (l : List AV)
  | lst (i : Nat)
  | rng (a b c : Int)

noncomputable def divII (a b : Int) : UInt64 := Float64.ofFrac (decide (a < 0) != decide (b < 0)) a.natAbs b.natAbs

noncomputable def fcmp (op : CmpOp) (o : Option Ordering) : Bool :=
  match op with
  | .Eq => o == some .eq
  | .NotEq => !(o == some .eq)
  | .Lt => o == some .lt
  | .LtE => o == some .lt || o == some .eq
  | .Gt => o == some .gt
  | .GtE => o == some .gt || o == some .eq
  | _ => false

noncomputable def icmp (op : CmpOp) (x y : Int) : Bool :=
  match op with
  | .Eq => x == y
  | .NotEq => x != y
  | .Lt => decide (x < y)
  | .LtE => decide (x ≤ y)
  | .Gt => decide (x > y)
  | .GtE => decide (x ≥ y)
  | _ => false

noncomputable def isOrd : CmpOp → Bool
  | .Eq | .NotEq | .Lt | .LtE | .Gt | .GtE => true
  | _ => false

noncomputable def flt (x y : UInt64) : Bool := Float64.cmp x y == some .lt
noncomputable def fmax3 (x y z : UInt64) : UInt64 := if flt x y then (if flt y z then z else y) else (if flt x z then z else x)
noncomputable def fmin3 (x y z : UInt64) : UInt64 := if flt y x then (if flt z y then z else y) else (if flt z x then z else x)
noncomputable def imax3 (a b c : Int) : Int := if a < b then (if b < c then c else b) else (if a < c then c else a)
end Mine
namespace Mine
open PySem PySem.W PySem.Calls PyProof.Rows PyProof.V PySem.Spec

structure St where
  loc : Nat → Option AV
  objs : List (List AV)
  own : List Nat

noncomputable def upd (ℓ : Nat → Option AV) (n : Nat) (v : AV) : Nat → Option AV := fun k => if k = n then some v else ℓ k

noncomputable def St.set (σ : St) (n : Nat) (v : AV) : St := { σ with loc := upd σ.loc n v }
noncomputable def St.alloc (σ : St) (l : List AV) : St := { σ with objs := σ.objs ++ [l], own := σ.objs.length :: σ.own }

mutual
inductive PE where
  | const (v : AV)
  | loc (n : Nat)
  | glob (j : Nat)
  | bin (op : Operator) (l r : PE)
  | neg (e : PE)
  | not (e : PE)
  | cmp (op : CmpOp) (l r : PE)
  | cmp2 (o₁ o₂ : CmpOp) (a b c : PE)
  | bools (isAnd : Bool) (es : PEs)
  | ite (c a b : PE)
  | call (f : PE) (args : PEs)
  | starcall (f : PE) (arg : PE)
  | sub (e i : PE)
  | slTo (e hi : PE)
  | slFrom (e lo : PE)
  | slAll (e lo hi : PE)
  | tuple (es : PEs)
  | list (es : PEs)
  | rep (es : PEs) (n : Int)
  | comp (elt : PE) (o : Option Nat) (caps gl : List Nat) (iter : PE) (ifs : PEs)
inductive PEs where
  | nil
  | cons (e : PE) (es : PEs)
end

inductive Tgt where
  | name (n : Nat)
  | tup (ns : List Nat)

mutual
inductive PS where
  | assign (t : Tgt) (e : PE)
  | aug (n : Nat) (op : Operator) (e : PE)
  | augSub (o i : PE) (op : Operator) (e : PE)
  | append (o e : PE)
  | ifs (c : PE) (a b : PSs)
  | for_ (t : Tgt) (iter : PE) (body : PSs)
  | ret (e : PE)
inductive PSs where
  | nil
  | cons (s : PS) (ss : PSs)
end


structure Keys where
  names : List Str
  globs : List Str
  cells : List Str := []
  /-- globals that none but the comprehensions read -/
  far : List Str := []

noncomputable def mC : AV → Const → Bool
  | .none, .none => true
  | .bool b, .bool c => b == c
  | .int i, .int j => i == j
  | .float x, .float y => x == y
  | .str s, .str t => s == t
  | _, _ => false

noncomputable def tgtNames : Option Nat → Expr → Option (List Str)
  | none, .Name x _ => some [x]
  | _, _ => none
noncomputable def childKeys (K : Keys) (xs : List Str) (caps gl : List Nat) : Keys :=
  ⟨xs ++ caps.map (fun i => K.names.getD i ""), gl.map (fun i => K.globs.getD i ""), caps.map (fun i => K.names.getD i ""), []⟩
noncomputable def scopeOk (K : Keys) (xs : List Str) (caps gl : List Nat) (sc : Scope) : Bool :=
  (sc.kind == .function && (sc.names.all (fun y => y.2 != .cell) && sc.names.all (fun y => y.2 != .local || sc.names.lookup y.1 == some .local))) &&
  (xs.all (fun x => sc.names.lookup x == some .local && (x == ("__debug__" : Str)) == false) &&
  (caps.all (fun i => (decide (i < K.names.length) && K.cells.contains (K.names.getD i "")) && (sc.names.lookup (K.names.getD i "") == some .free && ((K.names.getD i "") == ("__debug__" : Str)) == false)) &&
  (gl.all (fun i => decide (i < K.globs.length) && sc.names.lookup (K.globs.getD i "") == some .globalImplicit) &&
  ((childKeys K xs caps gl).names.Nodup && sc.names.all (fun y => y.2 != .free || (caps.map (fun i => K.names.getD i "")).contains y.1)))))

noncomputable def notSet : Expr → Bool
  | .Set .. => false
  | _ => true
noncomputable def compKeys (K : Keys) (o : Option Nat) (tgt : Expr) (caps gl : List Nat) (sc : Scope) (n : Nat) (k : Keys → Bool) : Bool :=
  match tgtNames o tgt with
  | some xs => (scopeOk K xs caps gl sc && decide (n ≤ 1)) && k (childKeys K xs caps gl)
  | none => false
noncomputable def notSlice : Expr → Bool
  | .Slice .. => false
  | _ => true
noncomputable def notStar : Expr → Bool
  | .Starred .. => false
  | _ => true
noncomputable def boolOk : Bool → BoolOp → Bool
  | true, .And => true
  | false, .Or => true
  | _, _ => false
mutual
noncomputable def mE (K : Keys) : PE → Expr → Bool
  | .const v, e => (match e with | .Constant c _ _ => mC v c | _ => false)
  | .loc n, e => (match e with | .Name x _ => K.names[n]? == some x | _ => false)
  | .glob j, e => (match e with | .Name x _ => K.globs[j]? == some x && !(K.far.contains x) | _ => false)
  | .bin op l r, e => (match e with | .BinOp l' op' r' _ => op == op' && (mE K l l' && mE K r r') | _ => false)
  | .neg p, e => (match e with | .UnaryOp .USub e' _ => mE K p e' | _ => false)
  | .not p, e => (match e with | .UnaryOp .Not e' _ => mE K p e' | _ => false)
  | .cmp op l r, e => (match e with | .Compare l' [op'] [r'] _ => op == op' && (behindInMarks op' r' == false && (mE K l l' && mE K r r')) | _ => false)
  | .cmp2 _ _ _ _ _, _ => false
  | .bools b es, e => (match e with | .BoolOp o es' _ => boolOk b o && mEs K es es' | _ => false)
  | .ite c a b, e => (match e with | .IfExp c' a' b' _ => mE K c c' && (mE K a a' && mE K b b') | _ => false)
  | .call f args, e => (match e with | .Call (.Name x p) (e' :: args') [] _ => mE K f (.Name x p) && mEs K args (e' :: args') | _ => false)
  | .starcall _ _, _ => false
  | .tuple es, e => (match e with | .Tuple es' _ _ => mEs K es es' | _ => false)
  | .rep _ _, _ => false
  | .list es, e => (match e with | .List es' _ => mEs K es es' | _ => false)
  | .sub p i, e => (match e with | .Subscript e' i' _ => notSlice i' && (mE K p e' && mE K i i') | _ => false)
  | .slTo p hi, e => (match e with | .Subscript e' (.Slice none (some hi') none _) _ => mE K p e' && mE K hi hi' | _ => false)
  | .slFrom p lo, e => (match e with | .Subscript e' (.Slice (some lo') none none _) _ => mE K p e' && mE K lo lo' | _ => false)
  | .slAll _ _ _, _ => false
  | .comp elt o caps gl iter ifs, e => (match e with | .ListComp elt' [⟨tgt, iter', ifs', 0⟩] sc _ => notSet iter' && (mE K iter iter' && compKeys K o tgt caps gl sc ifs'.length fun K' => mE K' elt elt' && mEs K' ifs ifs') | _ => false)
noncomputable def mEs (K : Keys) : PEs → List Expr → Bool
  | .nil, [] => true
  | .cons e es, e' :: es' => notStar e' && (mE K e e' && mEs K es es')
  | _, _ => false
end


noncomputable def addW (a b : AV) (σ : St) (Q : AV → St → Prop) : Prop :=
  match a, b with
  | .int x, .int y => Q (.int (x + y)) σ
  | .float x, .float y => Q (.float (Float64.add x y)) σ
  | _, _ => False
noncomputable def minusW (a b : AV) (σ : St) (Q : AV → St → Prop) : Prop :=
  match a, b with
  | .int x, .int y => Q (.int (x - y)) σ
  | .float x, .float y => Q (.float (Float64.sub x y)) σ
  | .float x, .int n => n.natAbs < 2 ^ 1023 ∧ Q (.float (Float64.sub x (Float64.ofInt n))) σ
  | _, _ => False
noncomputable def multW (a b : AV) (σ : St) (Q : AV → St → Prop) : Prop :=
  match a, b with
  | .int x, .int y => IntMulOk x y ∧ Q (.int (x * y)) σ
  | .float x, .float y => Q (.float (Float64.mul x y)) σ
  | _, _ => False
noncomputable def divW (a b : AV) (σ : St) (Q : AV → St → Prop) : Prop :=
  match a, b with
  | .int x, .int y => (y ≠ 0 ∧ (x.natAbs < 2 ^ 1023 ∨ Float64.isInf (divII x y) = false)) ∧ Q (.float (divII x y)) σ
  | .float x, .float y => Float64.isZero y = false ∧ Q (.float (Float64.div x y)) σ
  | _, _ => False
noncomputable def modW (a b : AV) (σ : St) (Q : AV → St → Prop) : Prop :=
  match a, b with
  | .int x, .int y => y ≠ 0 ∧ Q (.int (x.fmod y)) σ
  | .float x, .float y => Float64.isZero y = false ∧ Q (.float (Float64.divmod x y).2) σ
  | _, _ => False
noncomputable def fdivW (a b : AV) (σ : St) (Q : AV → St → Prop) : Prop :=
  match a, b with
  | .int x, .int y => (y ≠ 0 ∧ y.natAbs.log2 < 9000) ∧ Q (.int (x.fdiv y)) σ
  | _, _ => False
noncomputable def powW (a b : AV) (σ : St) (Q : AV → St → Prop) : Prop :=
  match a, b with
  | .int x, .int n => (0 ≤ n ∧ n ≤ 1000000 ∧ x.natAbs < 2 ^ 64) ∧ Q (.int (x ^ n.toNat)) σ
  | _, _ => False
noncomputable def binW (op : Operator) (a b : AV) (σ : St) (Q : AV → St → Prop) : Prop :=
  match op with
  | .Add => addW a b σ Q
  | .Sub => minusW a b σ Q
  | .Mult => multW a b σ Q
  | .Div => divW a b σ Q
  | .Mod => modW a b σ Q
  | .FloorDiv => fdivW a b σ Q
  | .Pow => powW a b σ Q
  | _ => False

noncomputable def cmpW (op : CmpOp) (a b : AV) (Q : Bool → Prop) : Prop :=
  match a, b with
  | .int x, .int y => isOrd op = true ∧ Q (icmp op x y)
  | .float x, .float y => isOrd op = true ∧ Q (fcmp op (Float64.cmp x y))
  | _, _ => False

noncomputable def truth (σ : St) : AV → Option Bool
  | .bool b => some b
  | .int i => some (i != 0)
  | .lst i => (σ.objs[i]?).bind fun l => if l.length < 2 ^ 40 then some (!l.isEmpty) else none
  | _ => none
noncomputable def truthW (v : AV) (σ : St) (Q : Bool → Prop) : Prop :=
  match v with
  | .bool b => Q b
  | .int i => Q (i != 0)
  | .lst i => ∃ l, σ.objs[i]? = some l ∧ l.length < 2 ^ 40 ∧ Q (!l.isEmpty)
  | _ => False
theorem truthW_iff {v : AV} {σ : St} {Q : Bool → Prop} : truthW v σ Q ↔ ∃ b, truth σ v = some b ∧ Q b := by
  unfold truthW truth
  split
  · simp
  · simp
  · rename_i i
    constructor
    · rintro ⟨l, h, hz, q⟩; exact ⟨_, by rw [h]; simp [hz], q⟩
    · rintro ⟨b, h, q⟩
      cases hl : σ.objs[i]? with
      | none => rw [hl] at h; cases h
      | some l =>
        rw [hl] at h
        simp only [Option.bind_some] at h
        split at h
        · rename_i hz; cases h; exact ⟨l, rfl, hz, q⟩
        · cases h
  · simp

noncomputable def pick {α : Type} (l : List α) (lo hi : Option Int) : List α := (l.drop (kms_lo lo l.length)).take (kms_hi hi l.length - kms_lo lo l.length)

abbrev Fns := Nat → List AV → List (List AV) → (AV → List (List AV) → Prop) → Prop

noncomputable def intsOf : List AV → Option (List Int)
  | [] => some []
  | .int i :: r => (intsOf r).map (i :: ·)
  | _ => .none

noncomputable def binL (op : Operator) (a b : AV) (σ : St) (Q : AV → St → Prop) : Prop :=
  match op, a, b with
  | .Add, .lst i, .lst j => ∃ l k, σ.objs[i]? = some l ∧ σ.objs[j]? = some k ∧ l.length + k.length ≤ sizeLine ∧ Q (.lst σ.objs.length) (σ.alloc (l ++ k))
  | .Add, .tup l, .tup k => (0 < l.length ∧ 0 < k.length ∧ l.length + k.length ≤ sizeLine) ∧ Q (.tup (l ++ k)) σ
  | op, a, b => binW op a b σ Q

noncomputable def AV.flt? : AV → Option UInt64
  | .float x => some x
  | _ => Option.none
noncomputable def eqFs : List AV → List AV → Bool
  | [], [] => true
  | a :: l, b :: k => (match a.flt?, b.flt? with | some x, some y => Float64.cmp x y == some .eq && eqFs l k | _, _ => false)
  | _, _ => false

noncomputable def cmpL (op : CmpOp) (a b : AV) (σ : St) (Q : Bool → Prop) : Prop :=
  match a, b with
  | .tup l, .tup k => (l ≠ [] ∧ eqFs l k = true) ∧ ((op = .Eq ∧ Q true) ∨ (op = .NotEq ∧ Q false))
  | .lst i, .lst j => ∃ l k, ∃ ns ms : List Int, (σ.objs[i]? = some l ∧ σ.objs[j]? = some k) ∧ (intsOf l = some ns ∧ intsOf k = some ms) ∧
      ((op = .Eq ∧ Q (decide (ns = ms))) ∨ (op = .NotEq ∧ Q (!decide (ns = ms))))
  | a, b => cmpW op a b Q

noncomputable def subW (o i : AV) (σ : St) (Q : AV → St → Prop) : Prop :=
  match o, i with
  | .lst j, .int k => ∃ l v, σ.objs[j]? = some l ∧ (0 ≤ k ∧ k < 2 ^ 63) ∧ l[k.toNat]? = some v ∧ Q v σ
  | .tup l, .int k => ∃ v, (0 ≤ k ∧ k < 2 ^ 63) ∧ l[k.toNat]? = some v ∧ Q v σ
  | _, _ => False

noncomputable def sliceW (o : AV) (lo hi : Option Int) (σ : St) (Q : AV → St → Prop) : Prop :=
  match o with
  | .lst j => ∃ l, σ.objs[j]? = some l ∧ l.length ≤ sizeLine ∧ Q (.lst σ.objs.length) (σ.alloc (pick l lo hi))
  | _ => False

noncomputable def lenW (args : List AV) (σ : St) (Q : AV → St → Prop) : Prop :=
  match args with
  | [.lst i] => ∃ l, σ.objs[i]? = some l ∧ l.length < 2 ^ 40 ∧ Q (.int l.length) σ
  | _ => False
noncomputable def minW (args : List AV) (σ : St) (Q : AV → St → Prop) : Prop :=
  match args with
  | [.float x, .float y, .float z] => Q (.float (fmin3 x y z)) σ
  | _ => False
noncomputable def maxW (args : List AV) (σ : St) (Q : AV → St → Prop) : Prop :=
  match args with
  | [.float x, .float y, .float z] => Q (.float (fmax3 x y z)) σ
  | _ => False
noncomputable def intW (args : List AV) (σ : St) (Q : AV → St → Prop) : Prop :=
  match args with
  | [.float x] => Float64.isFinite x = true ∧ Q (.int (Flt.toInt Float64.truncOf x)) σ
  | _ => False
noncomputable def listW (args : List AV) (σ : St) (Q : AV → St → Prop) : Prop :=
  match args with
  | [.lst i] => ∃ l, σ.objs[i]? = some l ∧ l.length ≤ sizeLine ∧ Q (.lst σ.objs.length) (σ.alloc l)
  | _ => False
noncomputable def tupleW (args : List AV) (σ : St) (Q : AV → St → Prop) : Prop :=
  match args with
  | [.lst i] => ∃ l, σ.objs[i]? = some l ∧ l.length ≤ sizeLine ∧ Q (.tup l) σ
  | _ => False
noncomputable def isinstW (args : List AV) (σ : St) (Q : AV → St → Prop) : Prop :=
  match args with
  | [.float _, .typ .float] => Q (.bool true) σ
  | _ => False
noncomputable def rangeW (args : List AV) (σ : St) (Q : AV → St → Prop) : Prop :=
  match args with
  | [.int b] => Q (.rng 0 b 1) σ
  | [.int a, .int b, .int c] => (c ≠ 0 ∧ c.natAbs.log2 < 9000) ∧ Q (.rng a b c) σ
  | _ => False
noncomputable def biW (b : Bi) (args : List AV) (σ : St) (Q : AV → St → Prop) : Prop :=
  match b with
  | .len => lenW args σ Q
  | .min => minW args σ Q
  | .max => maxW args σ Q
  | .isinstance => isinstW args σ Q
  | _ => False
noncomputable def typW (t : Ty) (args : List AV) (σ : St) (Q : AV → St → Prop) : Prop :=
  match t with
  | .range => rangeW args σ Q
  | .int => intW args σ Q
  | .list => listW args σ Q
  | .tuple => tupleW args σ Q
  | _ => False
noncomputable def callW (fns : Fns) (f : AV) (args : List AV) (σ : St) (Q : AV → St → Prop) : Prop :=
  match f with
  | .fn k => fns k args σ.objs (fun v objs => Q v { σ with objs := objs })
  | .bi b => biW b args σ Q
  | .typ t => typW t args σ Q
  | _ => False

noncomputable def noFns : Fns := fun _ _ _ _ => False

noncomputable def rngItems (a b c : Int) : List AV := (List.range (Builtin.Range.rangeSize a b c).toNat).map fun i => .int (a + ((i : Nat) : Int) * c)
noncomputable def itemsW (v : AV) (σ : St) (K : List AV → Prop) : Prop :=
  match v with
  | .rng a b c => (Builtin.Range.small a b c = true ∧ 0 < c) ∧ K (rngItems a b c)
  | .lst j => ∃ l, σ.objs[j]? = some l ∧ K l
  | .tup l => K l
  | _ => False
noncomputable def partsW (o : Option Nat) (v : AV) (objs : List (List AV)) (K : List AV → Prop) : Prop :=
  match o with
  | none => K [v]
  | some n => match v with
    | .tup l => l.length = n ∧ K l
    | .lst j => ∃ l, objs[j]? = some l ∧ l.length = n ∧ K l
    | _ => False
noncomputable def childLoc (ℓ : Nat → Option AV) (vs : List AV) (caps : List Nat) : Nat → Option AV := fun i => if i < vs.length then vs[i]? else (caps[i - vs.length]?).bind ℓ
noncomputable def childG (g : Nat → Option AV) (gl : List Nat) : Nat → Option AV := fun j => (gl[j]?).bind g
noncomputable def appendAt (objs : List (List AV)) (n : Nat) (u : AV) : List (List AV) := objs.set n (objs.getD n [] ++ [u])
noncomputable def compL (turn : AV → List (List AV) → (Option AV → List (List AV) → Prop) → Prop) (n : Nat) : List AV → List (List AV) → (List (List AV) → Prop) → Prop
  | [], objs, Q => Q objs
  | v :: vs, objs, Q => turn v objs fun r objs' => match r with
    | none => compL turn n vs objs' Q
    | some u => compL turn n vs (appendAt objs' n u) Q

noncomputable def AV.callable : AV → Bool
  | .fn _ | .bi _ | .typ _ => true
  | _ => false

mutual
noncomputable def wpE (g : Nat → Option AV) (fns : Fns) : PE → St → (AV → St → Prop) → Prop
  | .const v, σ, Q => Q v σ
  | .loc n, σ, Q => ∃ v, σ.loc n = some v ∧ Q v σ
  | .glob j, σ, Q => ∃ v, g j = some v ∧ Q v σ
  | .bin op l r, σ, Q => wpE g fns l σ fun a σ₁ => wpE g fns r σ₁ fun b σ₂ => binL op a b σ₂ Q
  | .neg e, σ, Q => wpE g fns e σ fun v σ₁ => ∃ i, v = .int i ∧ Q (.int (-i)) σ₁
  | .not e, σ, Q => wpE g fns e σ fun v σ₁ => truthW v σ₁ fun b => Q (.bool (!b)) σ₁
  | .cmp op l r, σ, Q => wpE g fns l σ fun a σ₁ => wpE g fns r σ₁ fun b σ₂ => cmpL op a b σ₂ fun c => Q (.bool c) σ₂
  | .cmp2 o₁ o₂ a b c, σ, Q => wpE g fns a σ fun x σ₁ => wpE g fns b σ₁ fun y σ₂ => cmpL o₁ x y σ₂ fun t =>
      (t = true → wpE g fns c σ₂ fun z σ₃ => cmpL o₂ y z σ₃ fun u => Q (.bool u) σ₃) ∧ (t = false → Q (.bool false) σ₂)
  | .bools isAnd es, σ, Q => wpBs g fns isAnd es σ Q
  | .ite c a b, σ, Q => wpE g fns c σ fun v σ₁ => truthW v σ₁ fun t => (t = true → wpE g fns a σ₁ Q) ∧ (t = false → wpE g fns b σ₁ Q)
  | .call f args, σ, Q => wpE g fns f σ fun fv σ₁ => fv.callable = true ∧ wpEs g fns args σ₁ fun vs σ₂ => callW fns fv vs σ₂ Q
  | .starcall _ _, _, _ => False
  | .sub e i, σ, Q => wpE g fns e σ fun o σ₁ => wpE g fns i σ₁ fun v σ₂ => subW o v σ₂ Q
  | .slTo e hi, σ, Q => wpE g fns e σ fun o σ₁ => wpE g fns hi σ₁ fun h σ₂ => ∃ k, h = .int k ∧ sliceW o none (some k) σ₂ Q
  | .slFrom e lo, σ, Q => wpE g fns e σ fun o σ₁ => wpE g fns lo σ₁ fun l σ₂ => ∃ k, l = .int k ∧ sliceW o (some k) none σ₂ Q
  | .slAll e lo hi, σ, Q => wpE g fns e σ fun o σ₁ => wpE g fns lo σ₁ fun l σ₂ => wpE g fns hi σ₂ fun h σ₃ => ∃ k j, l = .int k ∧ h = .int j ∧ sliceW o (some k) (some j) σ₃ Q
  | .tuple es, σ, Q => wpEs g fns es σ fun vs σ₁ => vs.length ≤ sizeLine ∧ Q (.tup vs) σ₁
  | .list es, σ, Q => wpEs g fns es σ fun vs σ₁ => vs.length ≤ sizeLine ∧ ∃ n, σ₁.objs.length = n ∧ Q (.lst n) (σ₁.alloc vs)
  | .rep es n, σ, Q => wpEs g fns es σ fun vs σ₁ => (vs.length ≤ sizeLine ∧ (0 ≤ n ∧ n < 2 ^ 63 ∧ vs.length * n.toNat ≤ 2 ^ 24)) ∧ ∃ k, σ₁.objs.length = k ∧ Q (.lst k) (σ₁.alloc (List.replicate n.toNat vs).flatten)
  | .comp elt o caps gl iter ifs, σ, Q => wpE g fns iter σ fun v σ₁ => itemsW v σ₁ fun items => items.length ≤ sizeLine ∧ ∃ n, σ₁.objs.length = n ∧
      compL (fun u objs K => partsW o u objs fun us => wpTs (childG g gl) noFns ifs ⟨childLoc σ₁.loc us caps, objs, []⟩ fun ok σ₂ =>
        (ok = true → wpE (childG g gl) noFns elt σ₂ fun x σ₃ => K (some x) σ₃.objs) ∧ (ok = false → K none σ₂.objs)) n items (σ₁.objs ++ [[]]) fun objs => Q (.lst n) ⟨σ₁.loc, objs, n :: σ₁.own⟩
noncomputable def wpEs (g : Nat → Option AV) (fns : Fns) : PEs → St → (List AV → St → Prop) → Prop
  | .nil, σ, Q => Q [] σ
  | .cons e es, σ, Q => wpE g fns e σ fun v σ₁ => wpEs g fns es σ₁ fun vs σ₂ => Q (v :: vs) σ₂
noncomputable def wpTs (g : Nat → Option AV) (fns : Fns) : PEs → St → (Bool → St → Prop) → Prop
  | .nil, σ, Q => Q true σ
  | .cons e es, σ, Q => wpE g fns e σ fun v σ₁ => truthW v σ₁ fun b => (b = true → wpTs g fns es σ₁ Q) ∧ (b = false → Q false σ₁)
noncomputable def wpBs (g : Nat → Option AV) (fns : Fns) (isAnd : Bool) : PEs → St → (AV → St → Prop) → Prop
  | .nil, _, _ => False
  | .cons e es, σ, Q => wpE g fns e σ fun v σ₁ => wpBr g fns isAnd es v σ₁ Q
noncomputable def wpBr (g : Nat → Option AV) (fns : Fns) (isAnd : Bool) : PEs → AV → St → (AV → St → Prop) → Prop
  | .nil, v, σ, Q => Q v σ
  | .cons e es, v, σ, Q => truthW v σ fun b => (b = isAnd → wpE g fns e σ fun u σ₁ => wpBr g fns isAnd es u σ₁ Q) ∧ (b = !isAnd → Q v σ)
end
inductive Fl where
  | next
  | ret (v : AV)

noncomputable def setAll (σ : St) : List Nat → List AV → St
  | n :: ns, v :: vs => setAll (σ.set n v) ns vs
  | _, _ => σ
noncomputable def bindW (t : Tgt) (v : AV) (σ : St) (K : St → Prop) : Prop :=
  match t with
  | .name n => K (σ.set n v)
  | .tup ns => partsW (some ns.length) v σ.objs fun vs => K (setAll σ ns vs)
noncomputable def frozen (v : AV) (own : List Nat) : List Nat := match v with | .lst j => own.filter (· != j) | _ => own
noncomputable def thawed (v : AV) (own own' : List Nat) : List Nat := match v with | .lst j => if own.contains j then j :: own' else own' | _ => own'

noncomputable def augW (op : Operator) (a b : AV) (σ : St) (Q : AV → St → Prop) : Prop :=
  match op, a, b with
  | .Add, .int x, .int y => Q (.int (x + y)) σ
  | _, _, _ => False

mutual
noncomputable def wpS (g : Nat → Option AV) (fns : Fns) : PS → St → (Fl → St → Prop) → Prop
  | .assign t e, σ, Q => wpE g fns e σ fun v σ₁ => bindW t v σ₁ fun σ₂ => Q .next σ₂
  | .aug n op e, σ, Q => ∃ v, σ.loc n = some v ∧ wpE g fns e σ fun u σ₁ => augW op v u σ₁ fun w σ₂ => Q .next (σ₂.set n w)
  | .augSub o i op e, σ, Q => wpE g fns o σ fun v σ₁ => ∃ j, v = .lst j ∧ wpE g fns i σ₁ fun u σ₂ => ∃ k l x, (u = .int k ∧ 0 ≤ k ∧ k < 2 ^ 63) ∧ (σ₂.objs[j]? = some l ∧ l[k.toNat]? = some (.int x)) ∧ op = .Add ∧
      wpE g fns e σ₂ fun w σ₃ => ∃ y l', w = .int y ∧ (σ₃.objs[j]? = some l' ∧ j ∈ σ₃.own ∧ k.toNat < l'.length) ∧ Q .next { σ₃ with objs := σ₃.objs.set j (l'.set k.toNat (.int (x + y))) }
  | .append o e, σ, Q => wpE g fns o σ fun v σ₁ => ∃ i, (v = .lst i ∧ i ∈ σ₁.own) ∧ wpE g fns e σ₁ fun u σ₂ => ∃ l, (σ₂.objs[i]? = some l ∧ i ∈ σ₂.own ∧ l.length < 2 ^ 20) ∧ Q .next { σ₂ with objs := σ₂.objs.set i (l ++ [u]) }
  | .ifs c a b, σ, Q => wpE g fns c σ fun v σ₁ => truthW v σ₁ fun t => (t = true → wpSs g fns a σ₁ Q) ∧ (t = false → wpSs g fns b σ₁ Q)
  | .for_ t iter body, σ, Q => wpE g fns iter σ fun v σ₁ => itemsW v σ₁ fun items => ∃ J : Nat → St → Prop, J 0 σ₁ ∧
      (∀ i u σ₂, items[i]? = some u → J i σ₂ → bindW t u { σ₂ with own := frozen v σ₂.own } fun σ₂' => wpSs g fns body σ₂' fun fl σ₃ => match fl with
        | .next => J (i + 1) { σ₃ with own := thawed v σ₂.own σ₃.own } | .ret w => Q (.ret w) { σ₃ with own := thawed v σ₂.own σ₃.own }) ∧ (∀ σ₂, J items.length σ₂ → Q .next σ₂)
  | .ret e, σ, Q => wpE g fns e σ fun v σ₁ => Q (.ret v) σ₁
noncomputable def wpSs (g : Nat → Option AV) (fns : Fns) : PSs → St → (Fl → St → Prop) → Prop
  | .nil, σ, Q => Q .next σ
  | .cons s ss, σ, Q => wpS g fns s σ fun fl σ₁ => match fl with | .next => wpSs g fns ss σ₁ Q | .ret v => Q (.ret v) σ₁
end

noncomputable def mT (K : Keys) : Tgt → Expr → Bool
  | .name n, .Name x _ => K.names[n]? == some x
  | .tup ns, .Tuple es _ _ => (ns.length == es.length) && (ns.zip es).all fun p => match p.2 with | .Name x _ => K.names[p.1]? == some x | _ => false
  | _, _ => false

noncomputable def rhsOk : Expr → Expr → Bool
  | .Name .., .ListComp .. => false
  | .Name .., .SetComp .. => false
  | .Name .., .DictComp .. => false
  | .Tuple .., .Tuple .. => false
  | _, _ => true
noncomputable def swapOk (K : Keys) : Expr → Expr → Bool
  | _, _ => false
mutual
noncomputable def mS (K : Keys) : PS → Stmt → Bool
  | .assign t e, s => (match s with | .Assign [t'] e' _ => mT K t t' && ((rhsOk t' e' || swapOk K t' e') && mE K e e') | _ => false)
  | .ifs c a b, s => (match s with | .If c' a' b' _ => mE K c c' && (mSs K a a' && mSs K b b') | _ => false)
  | .for_ t it body, s => (match s with | .For t' it' body' [] _ => mT K t t' && (notSet it' && (mE K it it' && mSs K body body')) | _ => false)
  | .ret e, s => (match s with | .Return (some e') _ => mE K e e' | _ => false)
  | .aug n op e, s => (match s with | .AugAssign (.Name x _) op' e' _ => K.names[n]? == some x && (op == op' && mE K e e') | _ => false)
  | .augSub o i op e, s => (match s with | .AugAssign (.Subscript o' i' _) op' e' _ => notSlice i' && (op == op' && (mE K o o' && (mE K i i' && mE K e e'))) | _ => false)
  | .append _ _, _ => false
noncomputable def mSs (K : Keys) : PSs → List Stmt → Bool
  | .nil, [] => true
  | .cons s ss, s' :: ss' => mS K s s' && mSs K ss ss'
  | _, _ => false
end
end Mine
namespace Mine
open PySem PySem.W PySem.Calls PyProof.Rows PyProof.V PySem.Spec

abbrev Led := List (Addr × Obj)
abbrev tupObj (items : List Value) (n : Nat) : Obj := { cls := .type "tuple", data := .seq items.toArray n }
abbrev lstObj (items : List Value) (n : Nat) : Obj := { cls := .type "list", data := .seq items.toArray n }
abbrev rngObj (a b c : Int) (t u v : Tok) : Obj := { cls := .type "range", dict := none, data := .fields #[.int a t, .int b u, .int c v], slots := #[] }

structure FA where
  addr : Nat → Addr
  top : Heap

noncomputable def IsL (o : Obj) (items : List Value) : Prop := o.cls = .type "list" ∧ ∃ n, o.data = .seq items.toArray n

noncomputable def IsLx (o : Obj) (items : List Value) : Prop := ∃ n, o = lstObj items n
theorem IsLx.toL {o : Obj} {items : List Value} (h : IsLx o items) : IsL o items := by obtain ⟨n, rfl⟩ := h; exact ⟨rfl, n, rfl⟩

noncomputable def Held (base : Heap) (news : Led) (a : Addr) (o : Obj) : Prop := (a, o) ∈ news ∨ base.get? a = some o

mutual
inductive RV (base : Heap) (fa : FA) (ad : List Addr) (news : Led) : AV → Value → Prop
  | none : RV base fa ad news .none .none
  | bool (b : Bool) : RV base fa ad news (.bool b) (.bool b)
  | int (i : Int) (t : Tok) : RV base fa ad news (.int i) (.int i t)
  | float (x : UInt64) (t : Tok) : t ≠ 0 → RV base fa ad news (.float x) (.float x t)
  | str (s : Str) (t : Tok) : RV base fa ad news (.str s) (.str s t)
  | typ (t : Ty) : RV base fa ad news (.typ t) (.type t.name)
  | bi (b : Bi) : RV base fa ad news (.bi b) (.builtin b.id)
  | fn (k : Nat) (o : Obj) (fd : FuncData) : fa.top.get? (fa.addr k) = some o → o.data = .func fd → RV base fa ad news (.fn k) (.ref (fa.addr k))
  | tup (l : List AV) (items : List Value) (a : Addr) (n : Nat) : Held base news a (tupObj items n) → RVs base fa ad news l items → RV base fa ad news (.tup l) (.ref a)
  | lst (i : Nat) (a : Addr) : ad[i]? = some a → RV base fa ad news (.lst i) (.ref a)
  | rng (a b c : Int) (r : Addr) (t u v : Tok) : Held base news r (rngObj a b c t u v) → RV base fa ad news (.rng a b c) (.ref r)
inductive RVs (base : Heap) (fa : FA) (ad : List Addr) (news : Led) : List AV → List Value → Prop
  | nil : RVs base fa ad news [] []
  | cons (v : AV) (vs : List AV) (c : Value) (cs : List Value) : RV base fa ad news v c → RVs base fa ad news vs cs → RVs base fa ad news (v :: vs) (c :: cs)
end

noncomputable def isCellObj (o : Obj) : Prop := ∃ v, o.data = .cell v
noncomputable def good (o : Obj) : Prop := o.cls = .type "tuple" ∨ o.cls = .type "list" ∨ o.cls = .type "range" ∨ isCellObj o
structure LeT (ad : List Addr) (news : Led) (ad' : List Addr) (news' : Led) : Prop where
  pre : ∀ (i : Nat) (a : Addr), ad[i]? = some a → ad'[i]? = some a
  keep : ∀ (a : Addr) (o : Obj), (a, o) ∈ news → o.cls = .type "tuple" ∨ o.cls = .type "range" → (a, o) ∈ news'
structure Le (fz : List Addr) (ad : List Addr) (news : Led) (ad' : List Addr) (news' : Led) : Prop where
  pre : ∀ (i : Nat) (a : Addr), ad[i]? = some a → ad'[i]? = some a
  keep : ∀ (a : Addr) (o : Obj), (a, o) ∈ news → (a ∈ fz ∨ (o.cls ≠ .type "list" ∧ ¬ isCellObj o)) → (a, o) ∈ news'

section
variable {fz : List Addr} {ad ad' ad'' : List Addr} {news news' news'' : Led}
theorem LeT.id : LeT ad news ad news := ⟨fun _ _ h => h, fun _ _ h _ => h⟩
theorem Le.refl : Le fz ad news ad news := ⟨fun _ _ h => h, fun _ _ h _ => h⟩
theorem Le.trans (h : Le fz ad news ad' news') (k : Le fz ad' news' ad'' news'') : Le fz ad news ad'' news'' :=
  ⟨fun i a e => k.pre i a (h.pre i a e), fun a o m g => k.keep a o (h.keep a o m g) g⟩
theorem Le.all (pre : ∀ (i : Nat) (a : Addr), ad[i]? = some a → ad'[i]? = some a) (k : ∀ p ∈ news, p ∈ news') : Le fz ad news ad' news' := ⟨pre, fun _ _ h _ => k _ h⟩
theorem Le.cons {p : Addr × Obj} : Le fz ad news ad (p :: news) := .all (fun _ _ h => h) fun _ h => .tail _ h
theorem snoc_pre {a : Addr} : ∀ (i : Nat) (b : Addr), ad[i]? = some b → (ad ++ [a])[i]? = some b := fun i b h => by
    have hlt : i < ad.length := (List.getElem?_eq_some_iff.mp h).1
    rw [List.getElem?_append_left hlt]; exact h
theorem Le.snoc {p : Addr × Obj} {a : Addr} : Le fz ad news (ad ++ [a]) (p :: news) := .all snoc_pre fun _ h => .tail _ h
end

theorem Held.leT {base : Heap} {ad ad' : List Addr} {news news' : Led} {a : Addr} {o : Obj} (h : Held base news a o) (k : LeT ad news ad' news') (n : o.cls = .type "tuple" ∨ o.cls = .type "range") : Held base news' a o :=
  h.elim (fun m => .inl (k.keep a o m n)) .inr

mutual
theorem RV.leT {base : Heap} {fa : FA} {ad ad' : List Addr} {news news' : Led} (k : LeT ad news ad' news') : ∀ {v : AV} {c : Value}, RV base fa ad news v c → RV base fa ad' news' v c
  | _, _, .none => .none
  | _, _, .bool b => .bool b
  | _, _, .int i t => .int i t
  | _, _, .float x t ht => .float x t ht
  | _, _, .str s t => .str s t
  | _, _, .typ n => .typ n
  | _, _, .bi n => .bi n
  | _, _, .fn j o fd h h' => .fn j o fd h h'
  | _, _, .tup l items a n h hs => .tup l items a n (h.leT k (.inl rfl)) (RVs.leT k hs)
  | _, _, .lst i a h => .lst i a (k.pre i a h)
  | _, _, .rng a b c r t u v h => .rng a b c r t u v (h.leT k (.inr rfl))
theorem RVs.leT {base : Heap} {fa : FA} {ad ad' : List Addr} {news news' : Led} (k : LeT ad news ad' news') : ∀ {v : List AV} {c : List Value}, RVs base fa ad news v c → RVs base fa ad' news' v c
  | _, _, .nil => .nil
  | _, _, .cons v vs c cs h hs => .cons v vs c cs (RV.leT k h) (RVs.leT k hs)
end

mutual
theorem RV.le {fz : List Addr} {base : Heap} {fa : FA} {ad ad' : List Addr} {news news' : Led} (k : Le fz ad news ad' news') : ∀ {v : AV} {c : Value}, RV base fa ad news v c → RV base fa ad' news' v c
  | _, _, .none => .none
  | _, _, .bool b => .bool b
  | _, _, .int i t => .int i t
  | _, _, .float x t ht => .float x t ht
  | _, _, .str s t => .str s t
  | _, _, .typ n => .typ n
  | _, _, .bi n => .bi n
  | _, _, .fn j o fd h h' => .fn j o fd h h'
  | _, _, .tup l items a n h hs => .tup l items a n (h.elim (fun m => .inl (k.keep _ _ m (.inr ⟨by simp, by rintro ⟨v, h⟩; cases h⟩))) .inr) (RVs.le k hs)
  | _, _, .lst i a h => .lst i a (k.pre i a h)
  | _, _, .rng a b c r t u v h => .rng a b c r t u v (h.elim (fun m => .inl (k.keep _ _ m (.inr ⟨by simp, by rintro ⟨v, h⟩; cases h⟩))) .inr)
theorem RVs.le {fz : List Addr} {base : Heap} {fa : FA} {ad ad' : List Addr} {news news' : Led} (k : Le fz ad news ad' news') : ∀ {v : List AV} {c : List Value}, RVs base fa ad news v c → RVs base fa ad' news' v c
  | _, _, .nil => .nil
  | _, _, .cons v vs c cs h hs => .cons v vs c cs (RV.le k h) (RVs.le k hs)
end

structure Cx where
  prog : Program
  w : World
  A : Around
  env : Env
  base : Heap
  fa : FA
  mg : Str → Option Value
  mb : Str → Option Value
  K : Keys
  gval : Nat → Option AV
  fns : Fns
  fz : List Addr
  /-- the frame's own cells are its own to store into -/
  ownCells : Bool

noncomputable def VarAt (C : Cx) (m : Str → Option Value) (news : Led) (x : Str) (cv : Value) : Prop :=
  if x ∈ C.K.cells then ∃ c o, C.env.cells.lookup x = some c ∧ Held C.base news c o ∧ o.data = .cell (some cv) else m x = some cv

structure RelM (C : Cx) (σ : St) (m : Str → Option Value) (ad : List Addr) (news : Led) : Prop where
  loc : ∀ n v, σ.loc n = some v → ∃ x cv, C.K.names[n]? = some x ∧ VarAt C m news x cv ∧ RV C.base C.fa ad news v cv
  len : ad.length = σ.objs.length
  obj : ∀ (i : Nat) (l : List AV), σ.objs[i]? = some l → ∃ (a : Addr) (items : List Value) (o : Obj), ad[i]? = some a ∧ (Held C.base news a o ∧ IsL o items) ∧ RVs C.base C.fa ad news l items
  own : ∀ (i : Nat), i ∈ σ.own → ∃ (a : Addr) (o : Obj), ad[i]? = some a ∧ ((a, o) ∈ news ∧ (∃ its, IsLx o its)) ∧ a ∉ C.fz
  inj : ∀ (i j : Nat) (a : Addr), ad[i]? = some a → ad[j]? = some a → i = j
  fzin : ∀ a ∈ C.fz, ∃ o, Held C.base news a o ∧ ∃ its, IsL o its
  cells : C.ownCells = true → ∀ x ∈ C.K.cells, ∃ c o, C.env.cells.lookup x = some c ∧ (c, o) ∈ news ∧ isCellObj o

structure Rel (C : Cx) (σ : St) (h : Heap) (m : Str → Option Value) (ad : List Addr) (news : Led) : Prop where
  F : Fr C.base C.env.locals h m
  N : News C.base C.env.locals h news
  M : RelM C σ m ad news

theorem Held.get {C : Cx} {σ : St} {h : Heap} {m : Str → Option Value} {ad : List Addr} {news : Led} {a : Addr} {o : Obj} (R : Rel C σ h m ad news) (x : Held C.base news a o) : h.get? a = some o :=
  x.elim (fun hm => (R.N _ hm).1) fun hb => R.F.keep _ _ hb

structure Rest (s s' : Shared) : Prop where
  eq : ∃ h tk, s' = { s with heap := h, toks := tk }
theorem Rest.refl {s : Shared} : Rest s s := ⟨_, _, rfl⟩
theorem Rest.trans {s s' s'' : Shared} (h : Rest s s') (k : Rest s' s'') : Rest s s'' := by
  obtain ⟨⟨_, _, rfl⟩⟩ := h
  obtain ⟨⟨_, _, rfl⟩⟩ := k
  exact ⟨⟨_, _, rfl⟩⟩
theorem Rest.mk' {s : Shared} {h : Heap} {tk : Nat} : Rest s { s with heap := h, toks := tk } := ⟨⟨_, _, rfl⟩⟩
theorem Rest.toks {s : Shared} {tk : Nat} : Rest s { s with toks := tk } := ⟨⟨_, _, rfl⟩⟩
theorem Rest.heap {s : Shared} {h : Heap} : Rest s { s with heap := h } := ⟨⟨_, _, rfl⟩⟩

abbrev NoE : Value → Shared → Prop := fun _ _ => False
abbrev Wp (C : Cx) {α : Type} (t : Sem α) (Q : α → Shared → Prop) (s : Shared) : Prop := wpAny (model C.prog C.w) C.A t Q NoE s

theorem withT {C : Cx} {α : Type} {t : Sem α} {Q : α → Shared → Prop} {s : Shared} (T : 0 < s.toks) (h : Wp C t (fun a s' => 0 < s'.toks → Q a s') s) : Wp C t Q s :=
  wpAny_mono (wpAny_toks h) (fun _ _ x => x.2 (Nat.lt_of_lt_of_le T x.1)) (fun _ _ x => x.2)
noncomputable def PostV (C : Cx) (Q : AV → St → Prop) (s : Shared) (ad : List Addr) (news : Led) (cv : Value) (s' : Shared) : Prop :=
  ∃ v σ' m' ad' news', Q v σ' ∧ RV C.base C.fa ad' news' v cv ∧ Rel C σ' s'.heap m' ad' news' ∧ Le C.fz ad news ad' news' ∧ Rest s s'
noncomputable def PostVs (C : Cx) (Q : List AV → St → Prop) (s : Shared) (ad : List Addr) (news : Led) (cv : List Value) (s' : Shared) : Prop :=
  ∃ v σ' m' ad' news', Q v σ' ∧ RVs C.base C.fa ad' news' v cv ∧ Rel C σ' s'.heap m' ad' news' ∧ Le C.fz ad news ad' news' ∧ Rest s s'
noncomputable def PostB (C : Cx) (Q : Bool → St → Prop) (s : Shared) (ad : List Addr) (news : Led) (b : Bool) (s' : Shared) : Prop :=
  ∃ σ' m' ad' news', Q b σ' ∧ Rel C σ' s'.heap m' ad' news' ∧ Le C.fz ad news ad' news' ∧ Rest s s'

theorem PostV.up {C : Cx} {Q : AV → St → Prop} {s₀ s : Shared} {ad₀ ad : List Addr} {news₀ news : Led} (k : Le C.fz ad₀ news₀ ad news) (r : Rest s₀ s) {cv : Value} {s' : Shared} (h : PostV C Q s ad news cv s') : PostV C Q s₀ ad₀ news₀ cv s' := by
  obtain ⟨v, σ', m', ad', news', q, rv, R, l, r'⟩ := h
  exact ⟨v, σ', m', ad', news', q, rv, R, k.trans l, r.trans r'⟩
theorem PostVs.up {C : Cx} {Q : List AV → St → Prop} {s₀ s : Shared} {ad₀ ad : List Addr} {news₀ news : Led} (k : Le C.fz ad₀ news₀ ad news) (r : Rest s₀ s) {cv : List Value} {s' : Shared} (h : PostVs C Q s ad news cv s') : PostVs C Q s₀ ad₀ news₀ cv s' := by
  obtain ⟨v, σ', m', ad', news', q, rv, R, l, r'⟩ := h
  exact ⟨v, σ', m', ad', news', q, rv, R, k.trans l, r.trans r'⟩
theorem PostB.up {C : Cx} {Q : Bool → St → Prop} {s₀ s : Shared} {ad₀ ad : List Addr} {news₀ news : Led} (k : Le C.fz ad₀ news₀ ad news) (r : Rest s₀ s) {cv : Bool} {s' : Shared} (h : PostB C Q s ad news cv s') : PostB C Q s₀ ad₀ news₀ cv s' := by
  obtain ⟨σ', m', ad', news', q, R, l, r'⟩ := h
  exact ⟨σ', m', ad', news', q, R, k.trans l, r.trans r'⟩

theorem PostV.here {C : Cx} {Q : AV → St → Prop} {σ : St} {s : Shared} {m : Str → Option Value} {ad : List Addr} {news : Led} {v : AV} {cv : Value} {tk : Nat} (R : Rel C σ s.heap m ad news) (q : Q v σ) (rv : RV C.base C.fa ad news v cv) :
    PostV C Q s ad news cv { s with toks := tk } := ⟨v, σ, m, ad, news, q, rv, R, Le.refl, Rest.toks⟩
theorem PostV.same {C : Cx} {Q : AV → St → Prop} {σ : St} {s : Shared} {m : Str → Option Value} {ad : List Addr} {news : Led} {v : AV} {cv : Value} (R : Rel C σ s.heap m ad news) (q : Q v σ) (rv : RV C.base C.fa ad news v cv) :
    PostV C Q s ad news cv s := ⟨v, σ, m, ad, news, q, rv, R, Le.refl, Rest.refl⟩

section
variable {C : Cx} {σ : St} {s : Shared} {m : Str → Option Value} {ad : List Addr} {news : Led}

theorem add_sound {a b : AV} {ca cb : Value} {Q : AV → St → Prop} (T : 0 < s.toks) (R : Rel C σ s.heap m ad news) (ra : RV C.base C.fa ad news a ca) (rb : RV C.base C.fa ad news b cb) (hh : C.A.handled = none)
    (q : addW a b σ Q) : Wp C (binaryOp .Add ca cb) (PostV C Q s ad news) s := by
  unfold addW at q
  split at q <;> first | exact False.elim q | (cases ra; cases rb)
  · exact PyProof.Rows.add_int (PostV.here R q (.int _ _))
  · exact PyProof.Rows.add_float (PostV.here R q (.float _ _ (Nat.ne_of_gt T)))
theorem minus_sound {a b : AV} {ca cb : Value} {Q : AV → St → Prop} (T : 0 < s.toks) (R : Rel C σ s.heap m ad news) (ra : RV C.base C.fa ad news a ca) (rb : RV C.base C.fa ad news b cb) (hh : C.A.handled = none)
    (q : minusW a b σ Q) : Wp C (binaryOp .Sub ca cb) (PostV C Q s ad news) s := by
  unfold minusW at q
  split at q <;> first | exact False.elim q | (cases ra; cases rb)
  · exact PyProof.Rows.sub_int (PostV.here R q (.int _ _))
  · exact PyProof.Rows.sub_float (PostV.here R q (.float _ _ (Nat.ne_of_gt T)))
  · exact PyProof.Rows.sub_fi_fits q.1 (PostV.here R q.2 (.float _ _ (Nat.ne_of_gt T)))
theorem mult_sound {a b : AV} {ca cb : Value} {Q : AV → St → Prop} (T : 0 < s.toks) (R : Rel C σ s.heap m ad news) (ra : RV C.base C.fa ad news a ca) (rb : RV C.base C.fa ad news b cb) (hh : C.A.handled = none)
    (q : multW a b σ Q) : Wp C (binaryOp .Mult ca cb) (PostV C Q s ad news) s := by
  unfold multW at q
  split at q <;> first | exact False.elim q | (cases ra; cases rb)
  · exact PyProof.Rows.mul_int (PostV.here R q.2 (.int _ _)) q.1
  · exact PyProof.Rows.mul_float (PostV.here R q (.float _ _ (Nat.ne_of_gt T)))
theorem div_sound {a b : AV} {ca cb : Value} {Q : AV → St → Prop} (T : 0 < s.toks) (R : Rel C σ s.heap m ad news) (ra : RV C.base C.fa ad news a ca) (rb : RV C.base C.fa ad news b cb) (hh : C.A.handled = none)
    (q : divW a b σ Q) : Wp C (binaryOp .Div ca cb) (PostV C Q s ad news) s := by
  unfold divW at q
  split at q <;> first | exact False.elim q | (cases ra; cases rb)
  · rcases q.1.2 with h | h
    · exact Flt.div_ii_fits hh h (fun e => absurd e q.1.1) (fun _ _ => PostV.here R q.2 (.float _ _ (Nat.ne_of_gt T)))
    · exact Flt.div_ii hh (fun e => absurd e q.1.1) (fun _ e => absurd (h.symm.trans e) Bool.false_ne_true) (fun _ _ => PostV.here R q.2 (.float _ _ (Nat.ne_of_gt T)))
  · exact PyProof.Rows.truediv_float_or hh (fun e => by rw [q.1] at e; cases e) (fun _ => PostV.here R q.2 (.float _ _ (Nat.ne_of_gt T)))
theorem mod_sound {a b : AV} {ca cb : Value} {Q : AV → St → Prop} (T : 0 < s.toks) (R : Rel C σ s.heap m ad news) (ra : RV C.base C.fa ad news a ca) (rb : RV C.base C.fa ad news b cb) (hh : C.A.handled = none)
    (q : modW a b σ Q) : Wp C (binaryOp .Mod ca cb) (PostV C Q s ad news) s := by
  unfold modW at q
  split at q <;> first | exact False.elim q | (cases ra; cases rb)
  · exact PyProof.Rows.mod_int q.1 (PostV.here R q.2 (.int _ _))
  · exact Flt.mod_ff hh (fun e => by rw [q.1] at e; cases e) (fun _ => PostV.here R q.2 (.float _ _ (Nat.ne_of_gt T)))
theorem fdiv_sound {a b : AV} {ca cb : Value} {Q : AV → St → Prop} (R : Rel C σ s.heap m ad news) (ra : RV C.base C.fa ad news a ca) (rb : RV C.base C.fa ad news b cb) (hh : C.A.handled = none)
    (q : fdivW a b σ Q) : Wp C (binaryOp .FloorDiv ca cb) (PostV C Q s ad news) s := by
  unfold fdivW at q
  split at q <;> first | exact False.elim q | (cases ra; cases rb)
  · exact PyProof.Rows.floordiv_int q.1.1 (PostV.here R q.2 (.int _ _)) (.inl (PyProof.noPylong_of_log2 q.1.2))
theorem pow_sound {a b : AV} {ca cb : Value} {Q : AV → St → Prop} (R : Rel C σ s.heap m ad news) (ra : RV C.base C.fa ad news a ca) (rb : RV C.base C.fa ad news b cb) (hh : C.A.handled = none)
    (q : powW a b σ Q) : Wp C (binaryOp .Pow ca cb) (PostV C Q s ad news) s := by
  unfold powW at q
  split at q <;> first | exact False.elim q | (cases ra; cases rb)
  · exact PyProof.Rows.pow_int_small q.1.1 q.1.2.1 q.1.2.2 (PostV.here R q.2 (.int _ _))
theorem bin_sound {op : Operator} {a b : AV} {ca cb : Value} {Q : AV → St → Prop} (T : 0 < s.toks) (R : Rel C σ s.heap m ad news) (ra : RV C.base C.fa ad news a ca) (rb : RV C.base C.fa ad news b cb) (hh : C.A.handled = none)
    (q : binW op a b σ Q) : Wp C (binaryOp op ca cb) (PostV C Q s ad news) s := by
  match op, q with
  | .Add, q => exact add_sound T R ra rb hh q
  | .Sub, q => exact minus_sound T R ra rb hh q
  | .Mult, q => exact mult_sound T R ra rb hh q
  | .Div, q => exact div_sound T R ra rb hh q
  | .Mod, q => exact mod_sound T R ra rb hh q
  | .FloorDiv, q => exact fdiv_sound R ra rb hh q
  | .Pow, q => exact pow_sound R ra rb hh q

theorem cmp_sound {op : CmpOp} {a b : AV} {ca cb : Value} {Q : Bool → Prop} (R : Rel C σ s.heap m ad news) (ra : RV C.base C.fa ad news a ca) (rb : RV C.base C.fa ad news b cb) (hh : C.A.handled = none)
    (q : cmpW op a b Q) : Wp C (compareOp op ca cb) (fun cv s' => ∃ c, cv = .bool c ∧ s' = s ∧ Q c) s := by
  unfold cmpW at q
  split at q <;> first | exact False.elim q | (cases ra; cases rb)
  · cases op <;> first | (simp [isOrd] at q; done) | skip
    · exact PyProof.Rows.eq_int ⟨_, rfl, rfl, q.2⟩
    · exact PyProof.Rows.ne_int ⟨_, rfl, rfl, q.2⟩
    · exact PyProof.Rows.lt_int ⟨_, rfl, rfl, q.2⟩
    · exact PyProof.Rows.le_int ⟨_, rfl, rfl, q.2⟩
    · exact PyProof.Rows.gt_int ⟨_, rfl, rfl, q.2⟩
    · exact PyProof.Rows.ge_int ⟨_, rfl, rfl, q.2⟩
  · cases op <;> first | (simp [isOrd] at q; done) | skip
    · exact AutoFloatOps.eq_0 ⟨_, rfl, rfl, q.2⟩
    · exact AutoFloatOps.ne_0 ⟨_, rfl, rfl, q.2⟩
    · exact AutoFloatOps.lt_0 ⟨_, rfl, rfl, q.2⟩
    · exact AutoFloatOps.le_0 ⟨_, rfl, rfl, q.2⟩
    · exact AutoFloatOps.gt_0 ⟨_, rfl, rfl, q.2⟩
    · exact AutoFloatOps.ge_0 ⟨_, rfl, rfl, q.2⟩

end
end Mine
namespace Mine
open PySem PySem.W PySem.Calls PyProof.Rows PyProof.V PySem.Spec

section
variable {prog : Program} {w : World} {A : Around} {E : Value → Shared → Prop} {s : Shared} {Q : Value → Shared → Prop}
open Flt in
noncomputable def max3 (a b c : Value) : Value := if ltV a b then (if ltV b c then c else b) else (if ltV a c then c else a)
open Flt in
noncomputable def min3 (a b c : Value) : Value := if ltV b a then (if ltV c b then c else b) else (if ltV c a then c else a)
open Flt in
theorem max_three_num {a b c : Value} (hh : A.handled = none) (ha : NumV a) (hb : NumV b) (hc : NumV c)
    (h : ∀ h' tk, (∀ c o, s.heap.get? c = some o → h'.get? c = some o) → Q (max3 a b c) { s with heap := h', toks := tk }) :
    wpAny (model prog w) A (call (.builtin "max") [a, b, c]) Q E s := by
  have hT : (s.heap.push { cls := .type "tuple", data := .seq #[a, b, c] }).IsTuple s.heap.objs.size #[a, b, c] := ⟨_, Heap.get?_push_size _ rfl, rfl, 0, rfl⟩
  refine call_max_three (wpAny_pyIter_tuple hT ?_)
  have hsz : (s.heap.push { cls := .type "tuple", data := .seq #[a, b, c] }).objs.size = s.heap.objs.size + 1 := Heap.size_push ..
  refine ⟨_, [_, s.heap.objs.size], [_], _, _, _, _, rfl, Walks.tuple (A := A.in1) hh _ s.heap.objs.size (by rw [hsz]; exact Nat.ne_of_lt (Nat.lt_succ_self _)) #[a, b, c],
    ⟨⟨_, Heap.get?_push_size _ rfl, rfl, rfl⟩, hT.push _⟩, fun d hd => ?_, by simp, cmpOf_gt #[a, b, c] (by simp [ha, hb, hc]), fun v h' tk hP hk => ?_⟩
  · show d < ((s.heap.push _).push _).objs.size
    rw [Heap.size_push, hsz]
    rcases List.mem_cons.mp hd with rfl | hd
    · rw [hsz]; exact Nat.lt_succ_self _
    · rcases List.mem_cons.mp hd with rfl | hd
      · exact Nat.lt_succ_of_lt (Nat.lt_succ_self _)
      · cases hd
  · have hold : ∀ d o, s.heap.get? d = some o → h'.get? d = some o := fun d o e => by
      refine hk d o (fun hm => ?_) (Heap.get?_push_of_some _ (Heap.get?_push_of_some _ e))
      rcases List.mem_cons.mp hm with e1 | hm
      · have := Heap.lt_size e; rw [e1, hsz] at this; exact Nat.lt_irrefl _ (Nat.lt_of_succ_lt this)
      · cases hm
    have := h h' tk hold
    have hv : v = max3 a b c := by
      unfold max3
      cases h1 : ltV a b <;> cases h2 : ltV b c <;> cases h3 : ltV a c <;> simp [argBest, h1, h2, h3] at hP <;> simp [hP]
    rw [hv]; exact this
open Flt in
theorem min_three_num {a b c : Value} (hh : A.handled = none) (ha : NumV a) (hb : NumV b) (hc : NumV c)
    (h : ∀ h' tk, (∀ c o, s.heap.get? c = some o → h'.get? c = some o) → Q (min3 a b c) { s with heap := h', toks := tk }) :
    wpAny (model prog w) A (call (.builtin "min") [a, b, c]) Q E s := by
  have hT : (s.heap.push { cls := .type "tuple", data := .seq #[a, b, c] }).IsTuple s.heap.objs.size #[a, b, c] := ⟨_, Heap.get?_push_size _ rfl, rfl, 0, rfl⟩
  refine call_min_three (wpAny_pyIter_tuple hT ?_)
  have hsz : (s.heap.push { cls := .type "tuple", data := .seq #[a, b, c] }).objs.size = s.heap.objs.size + 1 := Heap.size_push ..
  refine ⟨_, [_, s.heap.objs.size], [_], _, _, _, _, rfl, Walks.tuple (A := A.in1) hh _ s.heap.objs.size (by rw [hsz]; exact Nat.ne_of_lt (Nat.lt_succ_self _)) #[a, b, c],
    ⟨⟨_, Heap.get?_push_size _ rfl, rfl, rfl⟩, hT.push _⟩, fun d hd => ?_, by simp, cmpOf_lt #[a, b, c] (by simp [ha, hb, hc]), fun v h' tk hP hk => ?_⟩
  · show d < ((s.heap.push _).push _).objs.size
    rw [Heap.size_push, hsz]
    rcases List.mem_cons.mp hd with rfl | hd
    · rw [hsz]; exact Nat.lt_succ_self _
    · rcases List.mem_cons.mp hd with rfl | hd
      · exact Nat.lt_succ_of_lt (Nat.lt_succ_self _)
      · cases hd
  · have hold : ∀ d o, s.heap.get? d = some o → h'.get? d = some o := fun d o e => by
      refine hk d o (fun hm => ?_) (Heap.get?_push_of_some _ (Heap.get?_push_of_some _ e))
      rcases List.mem_cons.mp hm with e1 | hm
      · have := Heap.lt_size e; rw [e1, hsz] at this; exact Nat.lt_irrefl _ (Nat.lt_of_succ_lt this)
      · cases hm
    have := h h' tk hold
    have hv : v = min3 a b c := by
      unfold min3
      cases h1 : ltV b a <;> cases h2 : ltV c b <;> cases h3 : ltV c a <;> simp [argBest, h1, h2, h3] at hP <;> simp [hP]
    rw [hv]; exact this

theorem set_at {l : Addr} {items : Array Value} {n : Nat} {k : Int} {t : Tok} {v : Value} {Q : Unit → Shared → Prop} (hl : s.heap.get? l = some { cls := .type "list", data := .seq items n })
    (h0 : 0 ≤ k) (hfit : k < 2 ^ 63) (hn : k.toNat < items.size)
    (hQ : ∀ h', Heap.SameBut l s.heap h' → h'.get? l = some { cls := .type "list", data := .seq (items.setIfInBounds k.toNat v) n } → Q () { s with heap := h' }) :
    wpAny (model prog w) A (setItem (.ref l) (.int k t) v) Q E s := by
  have T : s.TypeIs (.ref l) "list" := ⟨_, hl, rfl⟩
  unfold setItem
  refine wpAny_holding ?_
  refine wpAny_bind (wpAny_sequenceKey T (by decide) ?_)
  refine wpAny_bind (wpAny_callSpecial?_slot (name := Str.ofString "__setitem__") T slot_list_setitem
    (wpAny_call_entry slot_list_setitem T entry_list_setitem ?_ (args_list_setitem _ _ _)))
  show wpAny _ _ (Builtin.List.listSubscript? (.int k t) >>= _) _ _ s
  refine wpAny_bind (wpAny_listSubscript_int (fitsIndex_of h0 hfit) ?_)
  clear hfit
  obtain ⟨j, rfl⟩ := Int.eq_ofNat_of_zero_le h0
  have hj : j < items.size := by simpa using hn
  show wpAny _ _ ((seqItemAt l j >>= fun r => pure (r.map (j, ·))) >>= _) _ _ s
  refine wpAny_bind (wpAny_bind (wpAny_seqItemAt hl rfl (wpAny_pure ?_)))
  rw [Array.getElem?_eq_getElem hj]
  show wpAny _ _ (setSeqItemAt l j v >>= _) _ _ s
  have hg : (s.heap.update l (Obj.mapSeq (·.setIfInBounds j v))).get? l = some { cls := .type "list", data := .seq (items.setIfInBounds j v) n } := by
    rw [Heap.get?_update_self _ hl (Obj.isFreed_of_seq (Obj.data_mapSeq (o := { cls := .type "list", data := .seq items n }) rfl (·.setIfInBounds j v)).choose_spec)]
    simp [Obj.mapSeq]
  refine wpAny_bind (wpAny_setSeqItemAt hl rfl ?_)
  first
    | exact wpAny_bind (wpAny_pure (wpAny_pure ⟨.none, rfl, wpAny_pure (hQ _ (Heap.SameBut.update ..) hg)⟩))
    | exact wpAny_pure ⟨.none, rfl, wpAny_pure (hQ _ (Heap.SameBut.update ..) hg)⟩
theorem isinstance_float_true {x : UInt64} {t : Tok} (h : Q (.bool true) s) : wpAny (model prog w) A (call (.builtin "isinstance") [.float x t, .type "float"]) Q E s :=
  call_isinstance (isinstance_true (Tx := "float") (by kernel_rfl) (by rw [isSubtype_type]; kernel_rfl)) ⟨typeIs_float s x t, h⟩
end
end Mine
namespace Mine
open PySem PySem.W PySem.Calls PyProof.Rows PyProof.V PySem.Spec

section
variable {M : Model} {A : Around} {E : Value → Shared → Prop} {s : Shared}
theorem same_float {x y : UInt64} {u v : Tok} {Q : Bool → Shared → Prop} (hu : u ≠ 0) (hv : v ≠ 0) (hb : NoneBooked s.heap) (hq : ∀ b, Q b s) : wpAny M A (isSame (.float x u) (.float y v)) Q E s := by
  show wpAny M A (isSame.created (x == y && !Float64.isNaN x) u v) Q E s
  unfold isSame.created
  refine wpAny_ite ?_
  have h0 : (u == 0 || v == 0) = false := by simp [hu, hv]
  split
  · rename_i h; rw [h0] at h; exact absurd h Bool.false_ne_true
  refine wpAny_ite ?_
  split
  · exact wpAny_pure (hq _)
  refine wpAny_ite ?_
  split
  · exact wpAny_pure (hq _)
  refine wpAny_bind (wpAny_sharingNotTold_none hb ?_)
  simp only [Bool.false_eq_true, if_false]
  refine wpAny_bind (wpAny_sharingNotTold_none hb ?_)
  simp only [Bool.false_eq_true, if_false]
  exact wpAny_bind (wpAny_rule (wpAny_bind (wpAny_askSetting (wpAny_pure (hq _)))))
theorem eqAt_float {x y : UInt64} {t u : Tok} (ht : t ≠ 0) (hu : u ≠ 0) (hb : NoneBooked s.heap) (hc : Float64.cmp x y = some .eq) : SeqAt.EqAt A s (.float x t) (.float y u) true := fun prog w E Q hq => by
  unfold eqBool
  refine wpAny_holding ?_
  refine wpAny_ite_split (fun _ => wpAny_bind (wpAny_rule (wpAny_pure hq))) (fun _ => ?_)
  refine wpAny_bind (same_float ht hu hb fun b => ?_)
  cases b
  · simp only [Bool.false_eq_true, if_false]
    refine wpAny_bind ?_
    show wpAny (model prog w) A (compareOp .Eq (.float x t) (.float y u)) _ _ s
    refine AutoFloatOps.eq_0 ?_
    rw [hc]
    exact wpAny_truthy_bool hq
  · simp only [if_true]
    exact wpAny_pure hq
end
end Mine
namespace Mine
open PySem PySem.W PySem.Calls PyProof.Rows PyProof.V PySem.Spec

noncomputable def GV (fa : FA) : AV → Value → Prop
  | .bi b, .builtin i => i = b.id
  | .typ t, .type n => n = t.name
  | .fn k, .ref a => a = fa.addr k ∧ ∃ o fd, fa.top.get? (fa.addr k) = some o ∧ o.data = .func fd
  | _, _ => False

structure CxOK (C : Cx) : Prop where
  hh : C.A.handled = none
  htop : ∀ b o, C.fa.top.get? b = some o → C.base.get? b = some o
  units : C.A.units + 64 < cLine
  kind : C.env.scope.kind = .function
  nodup : C.K.names.Nodup
  locs : ∀ x ∈ C.K.names, (x == ("__debug__" : Str)) = false ∧ (x ∉ C.K.cells → C.env.kindOf x = some .local) ∧ (x ∈ C.K.cells → C.env.kindOf x = some .cell)
  cellinj : ∀ x ∈ C.K.cells, ∀ y ∈ C.K.cells, ∀ c, C.env.cells.lookup x = some c → C.env.cells.lookup y = some c → x = y
  cellat : ∀ x ∈ C.K.cells, ∃ c, C.env.cells.lookup x = some c
  g : C.base.Ns mainGlobals C.mg
  b : C.base.Ns builtinsNs C.mb
  nb : NoneBooked C.base
  eg : C.env.globals = mainGlobals
  eb : C.env.builtins = builtinsNs
  globs : ∀ (j : Nat) (x : Str) (v : AV), C.K.globs[j]? = some x → C.gval j = some v → ((x == ("__debug__" : Str)) = false ∧ (x ∉ C.K.far → C.env.kindOf x = some .globalImplicit)) ∧ ∃ cv, GV C.fa v cv ∧ (C.mg x = some cv ∨ (C.mg x = none ∧ C.mb x = some cv))
  call : ∀ (fz : List Addr) (k : Nat) (args : List AV) (cargs : List Value) (σ : St) (Q : AV → St → Prop) (s : Shared) (m : Str → Option Value) (ad : List Addr) (news : Led),
    0 < s.toks → Rel { C with fz := fz } σ s.heap m ad news → RVs C.base C.fa ad news args cargs → C.fns k args σ.objs (fun v objs => Q v { σ with objs := objs }) → Wp C (call (.ref (C.fa.addr k)) cargs) (PostV { C with fz := fz } Q s ad news) s
theorem CxOK.fz {C : Cx} (ok : CxOK C) (f : List Addr) : CxOK { C with fz := f } :=
  ⟨ok.hh, ok.htop, ok.units, ok.kind, ok.nodup, ok.locs, ok.cellinj, ok.cellat, ok.g, ok.b, ok.nb, ok.eg, ok.eb, ok.globs, ok.call⟩

section
variable {base : Heap} {fa : FA} {ad : List Addr} {news : Led}
theorem RVs.length : ∀ {l : List AV} {c : List Value}, RVs base fa ad news l c → l.length = c.length
  | _, _, .nil => rfl
  | _, _, .cons _ _ _ _ _ hs => by simp [hs.length]
theorem RVs.append : ∀ {l : List AV} {c : List Value} {l' : List AV} {c' : List Value}, RVs base fa ad news l c → RVs base fa ad news l' c' → RVs base fa ad news (l ++ l') (c ++ c')
  | _, _, _, _, .nil, k => k
  | _, _, _, _, .cons v vs c cs h hs, k => .cons _ _ _ _ h (hs.append k)
theorem RVs.drop : ∀ {l : List AV} {c : List Value} (n : Nat), RVs base fa ad news l c → RVs base fa ad news (l.drop n) (c.drop n)
  | _, _, 0, h => by simpa using h
  | _, _, n + 1, .nil => by simpa using RVs.nil
  | _, _, n + 1, .cons v vs c cs h hs => by simpa using hs.drop n
theorem RVs.take : ∀ {l : List AV} {c : List Value} (n : Nat), RVs base fa ad news l c → RVs base fa ad news (l.take n) (c.take n)
  | _, _, 0, h => by simpa using RVs.nil
  | _, _, n + 1, .nil => by simpa using RVs.nil
  | _, _, n + 1, .cons v vs c cs h hs => by simpa using RVs.cons _ _ _ _ h (hs.take n)
theorem RVs.pick {l : List AV} {c : List Value} (lo hi : Option Int) (h : RVs base fa ad news l c) : RVs base fa ad news (pick l lo hi) (kms_pick c lo hi) := by
  unfold Mine.pick kms_pick
  rw [← h.length]
  exact (h.drop _).take _
theorem RVs.get : ∀ {l : List AV} {c : List Value} (i : Nat) (v : AV), RVs base fa ad news l c → l[i]? = some v → ∃ cv, c[i]? = some cv ∧ RV base fa ad news v cv
  | _, _, _, _, .nil, h => by simp at h
  | _, _, 0, v, .cons v' vs c cs h hs, e => by
    simp only [List.getElem?_cons_zero, Option.some.injEq] at e
    subst e
    exact ⟨c, rfl, h⟩
  | _, _, i + 1, v, .cons v' vs c cs h hs, e => by
    simp only [List.getElem?_cons_succ] at e ⊢
    exact hs.get i v e
theorem RVs.set : ∀ {l : List AV} {c : List Value} (i : Nat) {v : AV} {cv : Value}, RVs base fa ad news l c → RV base fa ad news v cv → RVs base fa ad news (l.set i v) (c.set i cv)
  | _, _, _, _, _, .nil, _ => .nil
  | _, _, 0, _, _, .cons v' vs c cs h hs, r => .cons _ _ _ _ r hs
  | _, _, i + 1, _, _, .cons v' vs c cs h hs, r => .cons _ _ _ _ h (hs.set i r)
theorem RVs.ints : ∀ {l : List AV} {c : List Value} {ns : List Int}, RVs base fa ad news l c → intsOf l = some ns → IntsAre c ns
  | _, _, _, .nil, e => by cases e; exact .nil
  | _, _, ns, .cons v vs c cs h hs, e => by
    cases h <;> first | (simp [intsOf] at e; done) | skip
    rename_i i t
    simp only [intsOf, Option.map_eq_some_iff] at e
    obtain ⟨r, hr, rfl⟩ := e
    exact .cons _ _ (hs.ints hr)
end

section
variable {C : Cx} {σ : St} {s : Shared} {m : Str → Option Value} {ad : List Addr} {news : Led}

theorem Rel.lt (R : Rel C σ s.heap m ad news) {i : Nat} {a : Addr} (h : ad[i]? = some a) : a < s.heap.objs.size := by
  have hi : i < σ.objs.length := by
    have := (List.getElem?_eq_some_iff.mp h).1
    rw [R.M.len] at this
    exact this
  obtain ⟨a', items, n, ha, hd, _⟩ := R.M.obj i _ (List.getElem?_eq_getElem hi)
  rw [h] at ha
  cases ha
  exact Heap.lt_size (hd.1.get R)
theorem Rel.fz_lt (R : Rel C σ s.heap m ad news) {a : Addr} (h : a ∈ C.fz) : a < s.heap.objs.size := by
  obtain ⟨o, ho, _⟩ := R.M.fzin a h
  exact Heap.lt_size (ho.get R)

theorem VarAt.mono {news' : Led} {x : Str} {cv : Value} (h : VarAt C m news x cv) (k : ∀ p ∈ news, p ∈ news') : VarAt C m news' x cv := by
  unfold VarAt at h ⊢
  split
  · rename_i hx
    rw [if_pos hx] at h
    obtain ⟨c, o, h1, h2, h3⟩ := h
    exact ⟨c, o, h1, h2.elim (fun y => .inl (k _ y)) .inr, h3⟩
  · rename_i hx
    rw [if_neg hx] at h
    exact h
theorem Held.mono {base : Heap} {news news' : Led} {a : Addr} {o : Obj} (h : Held base news a o) (k : ∀ p ∈ news, p ∈ news') : Held base news' a o := h.elim (fun y => .inl (k _ y)) .inr
theorem RelM.mono {news' : Led} (R : RelM C σ m ad news) (k : ∀ p ∈ news, p ∈ news') : RelM C σ m ad news' := by
  have l : Le [] ad news ad news' := .all (fun _ _ h => h) k
  refine ⟨fun n v h => ?_, R.len, fun i l' h => ?_, fun i h => ?_, R.inj, fun a h => ?_, fun hc x hx => ?_⟩
  · obtain ⟨x, cv, h1, h2, h3⟩ := R.loc n v h
    exact ⟨x, cv, h1, h2.mono k, h3.le l⟩
  · obtain ⟨a, items, o, h1, h2, h3⟩ := R.obj i l' h
    exact ⟨a, items, o, h1, ⟨h2.1.mono k, h2.2⟩, h3.le l⟩
  · obtain ⟨a, o, h1, h2, h3⟩ := R.own i h
    exact ⟨a, o, h1, ⟨k _ h2.1, h2.2⟩, h3⟩
  · obtain ⟨o, ho, hL⟩ := R.fzin a h
    exact ⟨o, ho.mono k, hL⟩
  · obtain ⟨c, o, h1, h2, h3⟩ := R.cells hc x hx
    exact ⟨c, o, h1, k _ h2, h3⟩

theorem Rel.heap (R : Rel C σ s.heap m ad news) {h' : Heap} (F : Fr C.base C.env.locals h' m) (N : News C.base C.env.locals h' news) : Rel C σ h' m ad news := ⟨F, N, R.M⟩
theorem Rel.more (R : Rel C σ s.heap m ad news) {h' : Heap} {p : Addr × Obj} (F : Fr C.base C.env.locals h' m) (N : News C.base C.env.locals h' (p :: news)) : Rel C σ h' m ad (p :: news) :=
  ⟨F, N, R.M.mono fun _ h => .tail _ h⟩
theorem RelM.alloc (R : RelM C σ m ad news) {D : Addr} {n : Nat} {l : List AV} {items : List Value} (hD : ∀ (i : Nat), ad[i]? ≠ some D) (hf : D ∉ C.fz) (hl : RVs C.base C.fa ad news l items) :
    RelM C (σ.alloc l) m (ad ++ [D]) ((D, lstObj items n) :: news) := by
  have R1 := R.mono (news' := (D, lstObj items n) :: news) fun _ h => .tail _ h
  have l1 : Le [] ad ((D, lstObj items n) :: news) (ad ++ [D]) ((D, lstObj items n) :: news) := .all snoc_pre fun _ h => h
  refine ⟨fun n v h => ?_, by simp [St.alloc, R.len], fun i k h => ?_, fun i h => ?_, ?_, R1.fzin, R1.cells⟩
  · obtain ⟨x, cv, h1, h2, h3⟩ := R1.loc n v h
    exact ⟨x, cv, h1, h2, h3.le l1⟩
  · by_cases hi : i < σ.objs.length
    · have h' : σ.objs[i]? = some k := by
        simp only [St.alloc] at h
        rw [List.getElem?_append_left hi] at h
        exact h
      obtain ⟨a, its, o, h1, h2, h3⟩ := R1.obj i k h'
      exact ⟨a, its, o, snoc_pre i a h1, h2, h3.le l1⟩
    · have hi2 : i = σ.objs.length := by
        have := (List.getElem?_eq_some_iff.mp h).1
        simp only [St.alloc, List.length_append, List.length_cons, List.length_nil] at this
        (first | lia | omega)
      subst hi2
      simp only [St.alloc, List.getElem?_concat_length, Option.some.injEq] at h
      subst h
      refine ⟨D, items, _, ?_, ⟨.inl (.head _), rfl, n, rfl⟩, hl.le Le.snoc (fz := [])⟩
      rw [← R.len, List.getElem?_concat_length]
  · rcases List.mem_cons.mp h with e | hm
    · subst e
      exact ⟨D, _, by rw [← R.len, List.getElem?_concat_length], ⟨.head _, items, n, rfl⟩, hf⟩
    · obtain ⟨a, o, ha, ho, hf'⟩ := R1.own i hm
      exact ⟨a, o, snoc_pre i a ha, ho, hf'⟩
  · intro i j a hi hj
    have key : ∀ i : Nat, (ad ++ [D])[i]? = some a → (i < ad.length ∧ ad[i]? = some a) ∨ (i = ad.length ∧ a = D) := by
      intro i hi
      by_cases h : i < ad.length
      · rw [List.getElem?_append_left h] at hi
        exact .inl ⟨h, hi⟩
      · have hi2 : i = ad.length := by
          have := (List.getElem?_eq_some_iff.mp hi).1
          simp only [List.length_append, List.length_cons, List.length_nil] at this
          (first | lia | omega)
        subst hi2
        simp only [List.getElem?_concat_length, Option.some.injEq] at hi
        exact .inr ⟨rfl, hi.symm⟩
    rcases key i hi with ⟨h1, h2⟩ | ⟨h1, h2⟩ <;> rcases key j hj with ⟨h3, h4⟩ | ⟨h3, h4⟩
    · exact R.inj i j a h2 h4
    · subst h4; exact absurd h2 (hD i)
    · subst h2; exact absurd h4 (hD j)
    · (first | lia | omega)
theorem Rel.alloc (R : Rel C σ s.heap m ad news) {h' : Heap} {D : Addr} {n : Nat} {l : List AV} {items : List Value} (F : Fr C.base C.env.locals h' m) (N : News C.base C.env.locals h' ((D, lstObj items n) :: news))
    (hD : s.heap.objs.size ≤ D) (hl : RVs C.base C.fa ad news l items) : Rel C (σ.alloc l) h' m (ad ++ [D]) ((D, lstObj items n) :: news) :=
  ⟨F, N, R.M.alloc (fun i h => absurd (R.lt h) (Nat.not_lt.mpr hD)) (fun h => absurd (R.fz_lt h) (Nat.not_lt.mpr hD)) hl⟩

theorem isList {i : Nat} {a : Addr} {l : List AV} (R : Rel C σ s.heap m ad news) (h : σ.objs[i]? = some l) (ha : ad[i]? = some a) : ∃ items : List Value, s.heap.IsList a items.toArray ∧ RVs C.base C.fa ad news l items := by
  obtain ⟨a', items, n, h1, h2, h3⟩ := R.M.obj i l h
  rw [ha] at h1
  cases h1
  exact ⟨items, ⟨_, h2.1.get R, h2.2⟩, h3⟩

theorem binL_sound {op : Operator} {a b : AV} {ca cb : Value} {Q : AV → St → Prop} (T : 0 < s.toks) (R : Rel C σ s.heap m ad news) (ra : RV C.base C.fa ad news a ca) (rb : RV C.base C.fa ad news b cb) (ok : CxOK C)
    (q : binL op a b σ Q) : Wp C (binaryOp op ca cb) (PostV C Q s ad news) s := by
  unfold binL at q
  split at q
  · obtain ⟨l, k, h1, h2, hz, q⟩ := q
    cases ra with | lst _ x hx => cases rb with | lst _ y hy =>
    obtain ⟨i1, L1, r1⟩ := isList R h1 hx
    obtain ⟨i2, L2, r2⟩ := isList R h2 hy
    refine add_lists R.F R.N L1 L2 (fun h' F' N' => ?_) (by rw [← r1.length, ← r2.length]; exact hz)
    refine ⟨_, _, m, ad ++ [s.heap.objs.size], _, q, .lst _ _ ?_, R.alloc F' N' (Nat.le_refl _) (r1.append r2), Le.snoc, Rest.heap⟩
    rw [← R.M.len, List.getElem?_concat_length]
  · cases ra with | tup l i1 a1 n1 g1 r1 => cases rb with | tup k i2 a2 n2 g2 r2 =>
    have T1 : IsTup s.heap a1 i1.toArray := ⟨_, g1.get R, rfl, n1, rfl⟩
    have T2 : IsTup s.heap a2 i2.toArray := ⟨_, g2.get R, rfl, n2, rfl⟩
    have e1 := r1.length
    have e2 := r2.length
    refine add_tuples R.F R.N T1 T2 (fun h => ?_) (fun _ h => ?_) (fun _ _ h' F' N' => ?_) (by rw [← e1, ← e2]; exact q.1.2.2)
    · rw [h] at e1; have := q.1.1; rw [e1] at this; cases this
    · rw [h] at e2; have := q.1.2.1; rw [e2] at this; cases this
    · exact ⟨_, _, m, ad, _, q.2, .tup _ (i1 ++ i2) _ 0 (.inl (.head _)) ((r1.append r2).le (fz := []) Le.cons), R.more F' N', Le.cons, Rest.heap⟩
  · exact bin_sound T R ra rb ok.hh q

theorem RV.flt {base : Heap} {fa : FA} {ad : List Addr} {news : Led} {v : AV} {c : Value} {x : UInt64} (r : RV base fa ad news v c) (h : v.flt? = some x) : ∃ t, c = .float x t ∧ t ≠ 0 := by
  cases r <;> first | (cases h; done) | skip
  rename_i t ht
  cases h
  exact ⟨t, rfl, ht⟩
theorem eqFs_inv {a b : AV} {l k : List AV} (h : eqFs (a :: l) (b :: k) = true) : ∃ x y, (a.flt? = some x ∧ b.flt? = some y) ∧ Float64.cmp x y = some .eq ∧ eqFs l k = true := by
  cases hx : a.flt? with
  | none => simp [eqFs, hx] at h
  | some x =>
    cases hy : b.flt? with
    | none => simp [eqFs, hx, hy] at h
    | some y =>
      simp only [eqFs, hx, hy, Bool.and_eq_true] at h
      exact ⟨x, y, ⟨rfl, rfl⟩, eq_of_beq h.1, h.2⟩
theorem eqFs_at {base : Heap} {fa : FA} {ad : List Addr} {news : Led} : ∀ {l k : List AV} {i1 i2 : List Value}, RVs base fa ad news l i1 → RVs base fa ad news k i2 → eqFs l k = true →
    i1.length = i2.length ∧ ∀ (A : Around) (s : Shared), NoneBooked s.heap → ∀ j (h1 : j < i1.length) (h2 : j < i2.length), SeqAt.EqAt A s i1[j] i2[j] true
  | _, _, _, _, .nil, .nil, _ => ⟨rfl, fun _ _ _ j h1 _ => absurd h1 (Nat.not_lt_zero j)⟩
  | _, _, _, _, .nil, .cons _ _ _ _ _ _, h => by cases h
  | _, _, _, _, .cons v vs c cs r rs, .nil, h => by cases h
  | _, _, _, _, .cons v vs c cs r rs, .cons v' vs' c' cs' r' rs', h => by
    obtain ⟨x, y, ⟨hx, hy⟩, hc, h'⟩ := eqFs_inv h
    obtain ⟨t, rfl, ht⟩ := r.flt hx
    obtain ⟨u, rfl, hu⟩ := r'.flt hy
    obtain ⟨e, f⟩ := eqFs_at rs rs' h'
    refine ⟨by simp [e], fun A s hb j h1 h2 => ?_⟩
    cases j with
    | zero => exact eqAt_float ht hu hb hc
    | succ j => exact f A s hb j (by simpa using h1) (by simpa using h2)
theorem noneKeeps {h h' : Heap} (n : NoneBooked h) (k : ∀ b o, h.get? b = some o → h'.get? b = some o) : NoneBooked h' := by
  obtain ⟨mc, h1, h2⟩ := n
  exact ⟨mc, h1.keeps k, h2⟩
theorem tuples_sound {op : CmpOp} {l k : List AV} {i1 i2 : List Value} {a1 a2 : Addr} {Q : Value → Shared → Prop} (T1 : s.heap.IsTuple a1 i1.toArray) (T2 : s.heap.IsTuple a2 i2.toArray) (r1 : RVs C.base C.fa ad news l i1) (r2 : RVs C.base C.fa ad news k i2) (hu : C.A.units < cLine) (nb : NoneBooked s.heap)
    (he : eqFs l k = true) (q : (op = .Eq ∧ Q (.bool true) s) ∨ (op = .NotEq ∧ Q (.bool false) s)) : Wp C (compareOp op (.ref a1) (.ref a2)) Q s := by
  obtain ⟨e, f⟩ := eqFs_at r1 r2 he
  have g : ∀ j (h1 : j < i1.toArray.size) (h2 : j < i2.toArray.size), SeqAt.EqAt C.A.in1 s i1.toArray[j] i2.toArray[j] ((fun _ => true) j) := fun j h1 h2 => f C.A.in1 s nb j (by simpa using h1) (by simpa using h2)
  have ee : ((List.range (min i1.toArray.size i2.toArray.size)).all (fun _ => true) && i1.toArray.size == i2.toArray.size) = true := by simp [e]
  rcases q with ⟨rfl, q⟩ | ⟨rfl, q⟩
  · exact SeqAt.RcAt.tuples T1 T2 hu g _ _ _ _ (by rw [ee]; exact q)
  · exact SeqAt.RcNeAt.tuples T1 T2 hu g _ _ _ _ (by rw [ee]; exact q)
theorem cmpL_sound {op : CmpOp} {a b : AV} {ca cb : Value} {Q : Bool → Prop} (R : Rel C σ s.heap m ad news) (ra : RV C.base C.fa ad news a ca) (rb : RV C.base C.fa ad news b cb) (ok : CxOK C)
    (q : cmpL op a b σ Q) : Wp C (compareOp op ca cb) (fun cv s' => ∃ c, cv = .bool c ∧ s' = s ∧ Q c) s := by
  unfold cmpL at q
  split at q
  · obtain ⟨⟨_, he⟩, q⟩ := q
    cases ra with | tup l i1 a1 n1 g1 r1 => cases rb with | tup k i2 a2 n2 g2 r2 =>
    exact tuples_sound ⟨_, g1.get R, rfl, n1, rfl⟩ ⟨_, g2.get R, rfl, n2, rfl⟩ r1 r2 (by have := ok.units; omega) (noneKeeps ok.nb R.F.keep) he (q.imp (fun x => ⟨x.1, _, rfl, rfl, x.2⟩) fun x => ⟨x.1, _, rfl, rfl, x.2⟩)
  · obtain ⟨l, k, ns, ms, ⟨h1, h2⟩, ⟨n1, n2⟩, q⟩ := q
    cases ra with | lst _ x hx => cases rb with | lst _ y hy =>
    obtain ⟨i1, L1, r1⟩ := isList R h1 hx
    obtain ⟨i2, L2, r2⟩ := isList R h2 hy
    rcases q with ⟨rfl, q⟩ | ⟨rfl, q⟩
    · exact ke_eq_ints L1 L2 (r1.ints n1) (r2.ints n2) ok.units ⟨_, rfl, rfl, q⟩
    · exact ke_ne_ints L1 L2 (r1.ints n1) (r2.ints n2) ok.units ⟨_, rfl, rfl, q⟩
  · exact cmp_sound R ra rb ok.hh q

theorem truth_sound {v : AV} {cv : Value} {b : Bool} (R : Rel C σ s.heap m ad news) (rv : RV C.base C.fa ad news v cv) (q : truth σ v = some b) : Wp C (truthy cv) (fun c s' => (∃ tk, s' = { s with toks := tk }) ∧ c = b) s := by
  unfold truth at q
  split at q
  · cases q; cases rv; exact wpAny_truthy_bool ⟨⟨_, rfl⟩, rfl⟩
  · cases q; cases rv; exact PySem.P.truthy_int ⟨⟨_, rfl⟩, rfl⟩
  · rename_i i
    cases rv with | lst _ x hx =>
    cases hl : σ.objs[i]? with
    | none => rw [hl] at q; cases q
    | some l =>
      rw [hl] at q
      simp only [Option.bind_some] at q
      split at q
      · rename_i hz
        cases q
        obtain ⟨items, L1, r1⟩ := isList R hl hx
        have hz' := r1.length
        refine wpAny_truthy_list L1 (by simp only [List.size_toArray]; omega) ⟨⟨_, rfl⟩, ?_⟩
        cases l <;> cases items <;> simp_all
      · cases q
  · cases q

theorem sub_plain {i' : Expr} {o i : Value} (h : (match i' with | .Slice .. => false | _ => true) = true) : subscripted i' false o i = operate [o, i] (getItem o i) := by
  cases i' <;> first | rfl | cases h

theorem seqIdx {k : Int} {n : Nat} (h0 : 0 ≤ k) (h : k.toNat < n) : seqIndex? k n = some k.toNat := by
  unfold seqIndex?
  simp only [if_neg (Int.not_lt.mpr h0)]
  rw [if_pos (by simp; omega)]
theorem sub_sound {value slice : Expr} {o i : AV} {co ci : Value} {Q : AV → St → Prop} (R : Rel C σ s.heap m ad news) (ro : RV C.base C.fa ad news o co) (ri : RV C.base C.fa ad news i ci)
    (hp : (match slice with | .Slice .. => false | _ => true) = true) (q : subW o i σ Q) : Wp C (subscriptTail value slice co ci) (PostV C Q s ad news) s := by
  unfold subW at q
  split at q
  · obtain ⟨l, v, hl, hk, hv, q⟩ := q
    cases ro with | lst _ x hx =>
    cases ri
    obtain ⟨items, L1, r1⟩ := isList R hl hx
    obtain ⟨cv, hcv, rv⟩ := r1.get _ _ hv
    exact tail_any L1.typeIs slot_list_getitem.lookup (wpAny_getItem_list L1 hk.1 hk.2 (by simpa using hcv) (PostV.same R q rv)) (sub_plain hp)
  · obtain ⟨v, hk, hv, q⟩ := q
    cases ro with | tup l items a n hh r1 =>
    cases ri
    obtain ⟨cv, hcv, rv⟩ := r1.get _ _ hv
    have hT : IsTup s.heap a items.toArray := ⟨_, hh.get R, rfl, n, rfl⟩
    have hlt := (List.getElem?_eq_some_iff.mp hcv).1
    exact tail_any hT.typeIs slot_tuple_getitem.lookup (PyProof.Rows.getItem_tuple hT (Int.le_trans (by decide) hk.1) hk.2 (seqIdx hk.1 hlt) (by simpa using hcv) (PostV.same R q rv)) (sub_plain hp)
  · exact q.elim

theorem slice_sound {value lower upper : Option Expr} {e : Expr} {p : Pos} {o : AV} {co vl vu : Value} {lo hi : Option Int} {Q : AV → St → Prop} (R : Rel C σ s.heap m ad news) (ro : RV C.base C.fa ad news o co)
    (pl : IsPart vl lo) (pu : IsPart vu hi) (q : sliceW o lo hi σ Q) :
    Wp C (subscriptTail e (.Slice lower upper none p) co (.ref s.heap.objs.size)) (PostV C Q s ad news) { s with heap := s.heap.push { cls := .type "slice", data := .fields #[vl, vu, .none] } } := by
  unfold sliceW at q
  split at q
  · obtain ⟨l, hl, hz, q⟩ := q
    cases ro with | lst _ x hx =>
    obtain ⟨items, L1, r1⟩ := isList R hl hx
    refine tail_any (Heap.IsList.typeIs (s := { s with heap := s.heap.push { cls := .type "slice", data := .fields #[vl, vu, .none] } }) (L1.push _)) slot_list_getitem.lookup
      (wpAny_getItem_list_slice (L1.push _) (Heap.IsSliceOf.new ..) pl pu .none (by simp) ?_ (by rw [List.size_toArray, ← r1.length]; exact hz)) rfl
    have N1 := News.push (R.F.push { cls := .type "slice", data := .fields #[vl, vu, .none] }) (R.N.grown fun _ _ e => Heap.get?_push_of_some _ e) { cls := .type "list", data := .seq (slicePick items.toArray lo hi none) }
    have F1 := (R.F.push { cls := .type "slice", data := .fields #[vl, vu, .none] }).push { cls := .type "list", data := .seq (slicePick items.toArray lo hi none) }
    rw [Heap.size_push] at N1
    show PostV C Q s ad news (.ref (s.heap.push _).objs.size) _
    rw [Heap.size_push]
    rw [kms_pick_eq] at *
    refine ⟨_, _, m, ad ++ [s.heap.objs.size + 1], _, q, .lst _ _ ?_, R.alloc F1 N1 (Nat.le_succ _) (r1.pick lo hi), Le.snoc, Rest.heap⟩
    rw [← R.M.len, List.getElem?_concat_length]
  · exact q.elim

theorem args1 {base : Heap} {fa : FA} {ad : List Addr} {news : Led} {a : AV} {cs : List Value} (h : RVs base fa ad news [a] cs) : ∃ c, cs = [c] ∧ RV base fa ad news a c := by
  cases h with | cons _ _ c _ r rs => cases rs; exact ⟨c, rfl, r⟩
theorem args2 {base : Heap} {fa : FA} {ad : List Addr} {news : Led} {a b : AV} {cs : List Value} (h : RVs base fa ad news [a, b] cs) : ∃ c d, cs = [c, d] ∧ RV base fa ad news a c ∧ RV base fa ad news b d := by
  cases h with | cons _ _ c _ r rs => obtain ⟨d, rfl, r2⟩ := args1 rs; exact ⟨c, d, rfl, r, r2⟩
theorem args3 {base : Heap} {fa : FA} {ad : List Addr} {news : Led} {a b e : AV} {cs : List Value} (h : RVs base fa ad news [a, b, e] cs) : ∃ c d f, cs = [c, d, f] ∧ RV base fa ad news a c ∧ RV base fa ad news b d ∧ RV base fa ad news e f := by
  cases h with | cons _ _ c _ r rs => obtain ⟨d, f, rfl, r2, r3⟩ := args2 rs; exact ⟨c, d, f, rfl, r, r2, r3⟩
theorem len_sound {args : List AV} {cargs : List Value} {Q : AV → St → Prop} (R : Rel C σ s.heap m ad news) (ra : RVs C.base C.fa ad news args cargs) (ok : CxOK C)
    (q : lenW args σ Q) : Wp C (call (.builtin "len") cargs) (PostV C Q s ad news) s := by
  unfold lenW at q
  split at q <;> first | exact False.elim q | skip
  · obtain ⟨l, hl, hz, q⟩ := q
    obtain ⟨_, rfl, r⟩ := args1 ra
    cases r with | lst _ x hx =>
    obtain ⟨items, L1, r1⟩ := isList R hl hx
    have hz' := r1.length
    refine PyProof.Rows.len_list L1 (by simp only [List.size_toArray]; omega) ?_
    rw [List.size_toArray, ← r1.length]
    exact PostV.here R q (.int _ _)
theorem min_sound {args : List AV} {cargs : List Value} {Q : AV → St → Prop} (R : Rel C σ s.heap m ad news) (ra : RVs C.base C.fa ad news args cargs) (ok : CxOK C)
    (q : minW args σ Q) : Wp C (call (.builtin "min") cargs) (PostV C Q s ad news) s := by
  unfold minW at q
  split at q <;> first | exact False.elim q | skip
  · obtain ⟨_, _, _, rfl, r, r2, r3⟩ := args3 ra
    cases r; cases r2; cases r3
    refine min_three_num ok.hh (.float _ _) (.float _ _) (.float _ _) fun h' tk kp => ?_
    rename_i x y z t ht u hu v hv
    have hv : ∃ t', t' ≠ 0 ∧ min3 (.float x t) (.float y u) (.float z v) = .float (fmin3 x y z) t' := by
      unfold min3 fmin3 flt
      simp only [Flt.ltV]
      by_cases c0 : (Float64.cmp y x == some Ordering.lt) = true <;> by_cases c1 : (Float64.cmp z y == some Ordering.lt) = true <;> by_cases c2 : (Float64.cmp z x == some Ordering.lt) = true <;> simp only [c0, c1, c2, if_true, if_false, Bool.false_eq_true] <;> first | exact ⟨_, ht, rfl⟩ | exact ⟨_, hu, rfl⟩ | exact ⟨_, hv, rfl⟩
    obtain ⟨t', ht', hv⟩ := hv
    rw [hv]
    exact ⟨_, _, m, ad, news, q, .float _ _ ht', R.heap (R.F.grownK kp) (R.N.grown kp), Le.refl, Rest.mk'⟩
theorem max_sound {args : List AV} {cargs : List Value} {Q : AV → St → Prop} (R : Rel C σ s.heap m ad news) (ra : RVs C.base C.fa ad news args cargs) (ok : CxOK C)
    (q : maxW args σ Q) : Wp C (call (.builtin "max") cargs) (PostV C Q s ad news) s := by
  unfold maxW at q
  split at q <;> first | exact False.elim q | skip
  · obtain ⟨_, _, _, rfl, r, r2, r3⟩ := args3 ra
    cases r; cases r2; cases r3
    refine max_three_num ok.hh (.float _ _) (.float _ _) (.float _ _) fun h' tk kp => ?_
    rename_i x y z t ht u hu v hv
    have hv : ∃ t', t' ≠ 0 ∧ max3 (.float x t) (.float y u) (.float z v) = .float (fmax3 x y z) t' := by
      unfold max3 fmax3 flt
      simp only [Flt.ltV]
      by_cases c0 : (Float64.cmp x y == some Ordering.lt) = true <;> by_cases c1 : (Float64.cmp y z == some Ordering.lt) = true <;> by_cases c2 : (Float64.cmp x z == some Ordering.lt) = true <;> simp only [c0, c1, c2, if_true, if_false, Bool.false_eq_true] <;> first | exact ⟨_, ht, rfl⟩ | exact ⟨_, hu, rfl⟩ | exact ⟨_, hv, rfl⟩
    obtain ⟨t', ht', hv⟩ := hv
    rw [hv]
    exact ⟨_, _, m, ad, news, q, .float _ _ ht', R.heap (R.F.grownK kp) (R.N.grown kp), Le.refl, Rest.mk'⟩
theorem list_sound {args : List AV} {cargs : List Value} {Q : AV → St → Prop} (R : Rel C σ s.heap m ad news) (ra : RVs C.base C.fa ad news args cargs) (ok : CxOK C)
    (q : listW args σ Q) : Wp C (call (.type "list") cargs) (PostV C Q s ad news) s := by
  unfold listW at q
  split at q <;> first | exact False.elim q | skip
  · obtain ⟨l, hl, hz, q⟩ := q
    obtain ⟨_, rfl, r⟩ := args1 ra
    cases r with | lst _ x hx =>
    obtain ⟨items, L1, r1⟩ := isList R hl hx
    obtain ⟨o, ho, hc, n, hd⟩ := L1
    refine call_list_seq (hsz := by rw [List.size_toArray, ← r1.length]; exact hz) x (.inl rfl) ho hc hd fun h' c' hk hD => ?_
    refine ⟨_, _, m, ad ++ [s.heap.objs.size], _, q, .lst _ _ ?_, R.alloc (n := c') (R.F.keeps hk) (news_pushed R.F R.N hk hD rfl) (Nat.le_refl _) r1, Le.snoc, Rest.heap⟩
    rw [← R.M.len, List.getElem?_concat_length]
theorem tuple_sound {args : List AV} {cargs : List Value} {Q : AV → St → Prop} (R : Rel C σ s.heap m ad news) (ra : RVs C.base C.fa ad news args cargs) (ok : CxOK C)
    (q : tupleW args σ Q) : Wp C (call (.type "tuple") cargs) (PostV C Q s ad news) s := by
  unfold tupleW at q
  split at q <;> first | exact False.elim q | skip
  · obtain ⟨l, hl, hz, q⟩ := q
    obtain ⟨_, rfl, r⟩ := args1 ra
    cases r with | lst _ x hx =>
    obtain ⟨items, L1, r1⟩ := isList R hl hx
    refine call_tuple_list L1 (fun h' hk => ?_) (by rw [List.size_toArray, ← r1.length]; exact hz)
    have F' := R.F.grownK hk
    have N' := R.N.grown hk
    exact ⟨_, _, m, ad, _, q, .tup _ items _ 0 (.inl (.head _)) (r1.le (fz := []) Le.cons), R.more (F'.push _) (News.push F' N' _), Le.cons, Rest.heap⟩
theorem int_sound {args : List AV} {cargs : List Value} {Q : AV → St → Prop} (R : Rel C σ s.heap m ad news) (ra : RVs C.base C.fa ad news args cargs) (ok : CxOK C)
    (q : intW args σ Q) : Wp C (call (.type "int") cargs) (PostV C Q s ad news) s := by
  unfold intW at q
  split at q <;> first | exact False.elim q | skip
  · obtain ⟨_, rfl, r⟩ := args1 ra
    cases r
    exact Flt.call_int_float3 ok.hh (fun e => absurd (Flt.not_nan_of_finite q.1) (by rw [e]; decide)) (fun e => absurd (Flt.not_inf_of_finite q.1) (by rw [e]; decide)) fun _ => PostV.here R q.2 (.int _ _)
theorem isinst_sound {args : List AV} {cargs : List Value} {Q : AV → St → Prop} (R : Rel C σ s.heap m ad news) (ra : RVs C.base C.fa ad news args cargs) (ok : CxOK C)
    (q : isinstW args σ Q) : Wp C (call (.builtin "isinstance") cargs) (PostV C Q s ad news) s := by
  unfold isinstW at q
  split at q <;> first | exact False.elim q | skip
  · obtain ⟨_, _, rfl, r, r2⟩ := args2 ra
    cases r; cases r2
    exact isinstance_float_true (PostV.same R q (.bool _))
theorem range_sound {args : List AV} {cargs : List Value} {Q : AV → St → Prop} (R : Rel C σ s.heap m ad news) (ra : RVs C.base C.fa ad news args cargs) (ok : CxOK C)
    (q : rangeW args σ Q) : Wp C (call (.type "range") cargs) (PostV C Q s ad news) s := by
  unfold rangeW at q
  split at q <;> first | exact False.elim q | skip
  · obtain ⟨_, rfl, r⟩ := args1 ra
    cases r
    exact call_range_1 ⟨_, _, m, ad, _, q, .rng _ _ _ _ _ _ _ (.inl (.head _)), R.more (R.F.push _) (News.push R.F R.N _), Le.cons, Rest.mk'⟩
  · obtain ⟨_, _, _, rfl, r, r2, r3⟩ := args3 ra
    cases r; cases r2; cases r3
    exact call_range_3 q.1.1 ⟨_, _, m, ad, _, q.2, .rng _ _ _ _ _ _ _ (.inl (.head _)), R.more (R.F.push _) (News.push R.F R.N _), Le.cons, Rest.mk'⟩ (.inl (PyProof.noPylong_of_log2 q.1.2))
theorem call_sound {f : AV} {cf : Value} {args : List AV} {cargs : List Value} {Q : AV → St → Prop} (T : 0 < s.toks) (R : Rel C σ s.heap m ad news) (rf : RV C.base C.fa ad news f cf) (ra : RVs C.base C.fa ad news args cargs) (ok : CxOK C)
    (q : callW C.fns f args σ Q) : Wp C (call cf cargs) (PostV C Q s ad news) s := by
  cases rf <;> first | exact False.elim q | skip
  · rename_i t
    cases t <;> first | exact False.elim q | skip
    · exact int_sound R ra ok q
    · exact tuple_sound R ra ok q
    · exact list_sound R ra ok q
    · exact range_sound R ra ok q
  · rename_i b
    cases b <;> first | exact False.elim q | skip
    · exact len_sound R ra ok q
    · exact min_sound R ra ok q
    · exact max_sound R ra ok q
    · exact isinst_sound R ra ok q
  · exact ok.call C.fz _ _ _ _ _ _ _ _ _ T R ra q
end
end Mine
namespace Mine
open PySem PySem.W PySem.Calls PyProof.Rows PyProof.V PySem.Spec

noncomputable def SoundE (C : Cx) (p : PE) (e : Expr) : Prop := ∀ (σ : St) (Q : AV → St → Prop) (s : Shared) (m : Str → Option Value) (ad : List Addr) (news : Led),
  0 < s.toks → wpE C.gval C.fns p σ Q → Rel C σ s.heap m ad news → Wp C (eval e C.env) (PostV C Q s ad news) s
noncomputable def PostT (C : Cx) (Q : AV → St → Prop) (s : Shared) (ad : List Addr) (news : Led) (b : Bool) (s' : Shared) : Prop :=
  ∃ v σ' m' ad' news', truth σ' v = some b ∧ Q v σ' ∧ Rel C σ' s'.heap m' ad' news' ∧ Le C.fz ad news ad' news' ∧ Rest s s'
noncomputable def SoundT (C : Cx) (p : PE) (e : Expr) : Prop := ∀ (σ : St) (Q : AV → St → Prop) (s : Shared) (m : Str → Option Value) (ad : List Addr) (news : Led),
  0 < s.toks → wpE C.gval C.fns p σ Q → (∀ v σ', Q v σ' → ∃ b, truth σ' v = some b) → Rel C σ s.heap m ad news → Wp C (isTrue e C.env (eval e C.env)) (PostT C Q s ad news) s
noncomputable def SoundEs (C : Cx) (p : PEs) (es : List Expr) : Prop := ∀ (σ : St) (Q : List AV → St → Prop) (s : Shared) (m : Str → Option Value) (ad : List Addr) (news : Led) (pos : Pos),
  0 < s.toks → wpEs C.gval C.fns p σ Q → Rel C σ s.heap m ad news → Wp C (spliced (backTo pos (starEach es C.env))) (PostVs C Q s ad news) s
noncomputable def SoundBr (C : Cx) (isAnd : Bool) (p : PEs) (es : List Expr) : Prop := ∀ (e : Expr) (p₀ : PE) (pos : Pos) (σ : St) (Q : AV → St → Prop) (s : Shared) (m : Str → Option Value) (ad : List Addr) (news : Led), SoundE C p₀ e → SoundT C p₀ e →
  0 < s.toks → wpE C.gval C.fns p₀ σ (fun v σ₁ => wpBr C.gval C.fns isAnd p v σ₁ Q) → Rel C σ s.heap m ad news →
    Wp C (eval (.BoolOp (if isAnd then .And else .Or) (e :: es) pos) C.env) (PostV C Q s ad news) s ∧
    ((∀ v σ', Q v σ' → ∃ b, truth σ' v = some b) → ∀ whole, Wp C (isTrue (.BoolOp (if isAnd then .And else .Or) (e :: es) pos) C.env whole) (PostT C Q s ad news) s)

section
variable {C : Cx} {σ : St} {s : Shared} {m : Str → Option Value} {ad : List Addr} {news : Led}
theorem PostT.up {Q : AV → St → Prop} {s₀ s : Shared} {ad₀ ad : List Addr} {news₀ news : Led} (k : Le C.fz ad₀ news₀ ad news) (r : Rest s₀ s) {cv : Bool} {s' : Shared} (h : PostT C Q s ad news cv s') : PostT C Q s₀ ad₀ news₀ cv s' := by
  obtain ⟨v, σ', m', ad', news', t, q, R, l, r'⟩ := h
  exact ⟨v, σ', m', ad', news', t, q, R, k.trans l, r.trans r'⟩

theorem testOf {p : PE} {e : Expr} (h : SoundE C p e) (he : ∀ whole, isTrue e C.env whole = (do let v ← whole; standAt e.pos; holding [v] (truthy v))) : SoundT C p e := by
  intro σ Q s m ad news T q hq R
  refine isTrue_plain (wpAny_mono (h σ Q s m ad news T q R) (fun cv s₁ hp => ?_) fun _ _ x => x) (he _)
  obtain ⟨v, σ', m', ad', news', q', rv, R', l, r⟩ := hp
  obtain ⟨b, hb⟩ := hq v σ' q'
  refine wpAny_mono (truth_sound R' rv hb) (fun c s₂ hc => ?_) fun _ _ x => x
  obtain ⟨⟨tk, rfl⟩, rfl⟩ := hc
  exact ⟨v, σ', m', ad', news', hb, q', R', l, r.trans Rest.toks⟩

theorem brNil (ok : CxOK C) (isAnd : Bool) : SoundBr C isAnd .nil [] := by
  intro e p₀ pos σ Q s m ad news hE hT T q R
  refine ⟨BoolOp_one (hE _ _ _ _ _ _ T q R), fun hq whole => ?_⟩
  have h := hT _ _ _ _ _ _ T q hq R
  cases isAnd
  · refine isTrue_or (wpAny_mono h (fun c s₁ hp => ?_) fun _ _ x => x)
    cases c
    · exact isTrue_or_nil hp
    · exact hp
  · refine isTrue_and (wpAny_mono h (fun c s₁ hp => ?_) fun _ _ x => x)
    cases c
    · exact hp
    · exact isTrue_and_nil hp

theorem brCons (ok : CxOK C) (isAnd : Bool) {p : PE} {e : Expr} {ps : PEs} {es : List Expr} (h1 : SoundE C p e) (h2 : SoundT C p e) (h3 : SoundBr C isAnd ps es) : SoundBr C isAnd (.cons p ps) (e :: es) := by
  intro e₀ p₀ pos σ Q s m ad news hE hT T q R
  have step : ∀ (v : AV) (σ' : St) (b : Bool) (s' : Shared) m' ad' news', truth σ' v = some b → wpBr C.gval C.fns isAnd (.cons p ps) v σ' Q → Rel C σ' s'.heap m' ad' news' →
      (b = isAnd → wpE C.gval C.fns p σ' fun u σ₁ => wpBr C.gval C.fns isAnd ps u σ₁ Q) ∧ (b = !isAnd → Q v σ') := by
    intro v σ' b s' m' ad' news' hb hw R'
    obtain ⟨b', hb', hw⟩ := truthW_iff.mp hw
    rw [hb] at hb'
    cases hb'
    exact hw
  constructor
  · have hv := wpAny_toks (hE _ _ _ _ _ _ T q R)
    have key : ∀ (cv : Value) (s₁ : Shared), 0 < s₁.toks → PostV C (fun v σ₁ => wpBr C.gval C.fns isAnd (.cons p ps) v σ₁ Q) s ad news cv s₁ →
        Wp C (truthy cv) (fun c s₂ => (c = isAnd → Wp C (eval (.BoolOp (if isAnd then .And else .Or) (e :: es) pos) C.env) (PostV C Q s ad news) s₂) ∧ (c = !isAnd → PostV C Q s ad news cv s₂)) s₁ := by
      intro cv s₁ T₁ hp
      obtain ⟨v, σ', m', ad', news', q', rv, R', l, r⟩ := hp
      obtain ⟨b, hb, _⟩ := truthW_iff.mp q'
      have hw := step v σ' b s₁ m' ad' news' hb q' R'
      refine wpAny_mono (wpAny_toks (truth_sound R' rv hb)) (fun c s₂ hc => ?_) fun _ _ x => x.2
      obtain ⟨ht, ⟨tk, rfl⟩, rfl⟩ := hc
      have T₂ : 0 < tk := Nat.lt_of_lt_of_le T₁ ht
      refine ⟨fun hc => ?_, fun hc => ?_⟩
      · refine wpAny_mono ((h3 e p pos σ' Q { s₁ with toks := tk } m' ad' news' h1 h2 T₂ (hw.1 hc) R').1) (fun _ _ x => ?_) fun _ _ x => x
        exact PostV.up l (r.trans Rest.toks) x
      · exact ⟨v, σ', m', ad', news', hw.2 hc, rv, R', l, r.trans Rest.toks⟩
    cases isAnd
    · refine BoolOp_or (wpAny_mono hv (fun cv s₁ hp => wpAny_mono (key cv s₁ (Nat.lt_of_lt_of_le T hp.1) hp.2) (fun c s₂ hc => ?_) fun _ _ x => x) fun _ _ x => x.2)
      cases c
      · exact hc.1 rfl
      · exact hc.2 rfl
    · refine BoolOp_and (wpAny_mono hv (fun cv s₁ hp => wpAny_mono (key cv s₁ (Nat.lt_of_lt_of_le T hp.1) hp.2) (fun c s₂ hc => ?_) fun _ _ x => x) fun _ _ x => x.2)
      cases c
      · exact hc.2 rfl
      · exact hc.1 rfl
  · intro hq whole
    have hv := wpAny_toks (hT _ _ _ _ _ _ T q (fun v σ' hw => by obtain ⟨b, hb, _⟩ := truthW_iff.mp hw; exact ⟨b, hb⟩) R)
    have key : ∀ (c : Bool) (s₁ : Shared), 0 < s₁.toks → PostT C (fun v σ₁ => wpBr C.gval C.fns isAnd (.cons p ps) v σ₁ Q) s ad news c s₁ →
        (c = isAnd → Wp C (isTrue (.BoolOp (if isAnd then .And else .Or) (e :: es) pos) C.env whole) (PostT C Q s ad news) s₁) ∧ (c = !isAnd → PostT C Q s ad news c s₁) := by
      intro c s₁ T₁ hp
      obtain ⟨v, σ', m', ad', news', hb, q', R', l, r⟩ := hp
      have hw := step v σ' c s₁ m' ad' news' hb q' R'
      refine ⟨fun hc => ?_, fun hc => ?_⟩
      · refine wpAny_mono ((h3 e p pos σ' Q s₁ m' ad' news' h1 h2 T₁ (hw.1 hc) R').2 hq whole) (fun _ _ x => ?_) fun _ _ x => x
        exact PostT.up l r x
      · exact ⟨v, σ', m', ad', news', hb, hw.2 hc, R', l, r⟩
    cases isAnd
    · refine isTrue_or (wpAny_mono hv (fun c s₁ hp => ?_) fun _ _ x => x.2)
      cases c
      · exact (key _ _ (Nat.lt_of_lt_of_le T hp.1) hp.2).1 rfl
      · exact (key _ _ (Nat.lt_of_lt_of_le T hp.1) hp.2).2 rfl
    · refine isTrue_and (wpAny_mono hv (fun c s₁ hp => ?_) fun _ _ x => x.2)
      cases c
      · exact (key _ _ (Nat.lt_of_lt_of_le T hp.1) hp.2).2 rfl
      · exact (key _ _ (Nat.lt_of_lt_of_le T hp.1) hp.2).1 rfl
end
end Mine
namespace Mine
open PySem PySem.W PySem.Calls PyProof.Rows PyProof.V PySem.Spec

noncomputable def fullLed (base : Heap) (L : Addr) (h : Heap) : Led :=
  (List.range h.objs.size).filterMap fun a => match h.get? a with
    | some o => if a = L ∨ (base.get? a).isSome then none else some (a, o)
    | none => none
theorem mem_full {base h : Heap} {L a : Addr} {o : Obj} (ho : h.get? a = some o) (hL : a ≠ L) (hb : base.get? a = none) : (a, o) ∈ fullLed base L h := by
  refine List.mem_filterMap.mpr ⟨a, List.mem_range.mpr (Heap.lt_size ho), ?_⟩
  rw [ho]
  simp [hL, hb]
theorem full_mem {base h : Heap} {L : Addr} : News base L h (fullLed base L h) := by
  intro p hp
  obtain ⟨a, _, h2⟩ := List.mem_filterMap.mp hp
  cases ho : h.get? a with
  | none => rw [ho] at h2; cases h2
  | some o =>
    rw [ho] at h2
    simp only at h2
    split at h2
    · cases h2
    · rename_i hc
      cases h2
      simp only [not_or, Bool.not_eq_true, Option.isSome_eq_false_iff, Option.isNone_iff_eq_none] at hc
      exact ⟨ho, hc.1, hc.2⟩

section
variable {C C' : Cx} {σ σ' : St} {h h' : Heap} {m m' : Str → Option Value} {ad ad' : List Addr} {news news' : Led}

theorem Rel.full (R : Rel C σ h m ad news) : Rel C σ h m ad (fullLed C.base C.env.locals h) :=
  ⟨R.F, full_mem, R.M.mono fun p hm => mem_full (R.N _ hm).1 (R.N _ hm).2.1 (R.N _ hm).2.2⟩
noncomputable def shaped (o : Obj) : Prop := (∃ its n, o.data = .seq its n) ∨ (∃ fs, o.data = .fields fs)
mutual
theorem RV.move {base base' : Heap} {fa : FA} {ad ad' : List Addr} {news news' : Led} (hp : ∀ (i : Nat) (a : Addr), ad[i]? = some a → ad'[i]? = some a)
    (hh : ∀ a o, shaped o → Held base news a o → Held base' news' a o) : ∀ {v : AV} {c : Value}, RV base fa ad news v c → RV base' fa ad' news' v c
  | _, _, .none => .none
  | _, _, .bool b => .bool b
  | _, _, .int i t => .int i t
  | _, _, .float x t ht => .float x t ht
  | _, _, .str s t => .str s t
  | _, _, .typ n => .typ n
  | _, _, .bi n => .bi n
  | _, _, .fn j o fd h h' => .fn j o fd h h'
  | _, _, .tup l items a n h hs => .tup l items a n (hh _ _ (.inl ⟨_, _, rfl⟩) h) (RVs.move hp hh hs)
  | _, _, .lst i a h => .lst i a (hp i a h)
  | _, _, .rng a b c r t u v h => .rng a b c r t u v (hh _ _ (.inr ⟨_, rfl⟩) h)
theorem RVs.move {base base' : Heap} {fa : FA} {ad ad' : List Addr} {news news' : Led} (hp : ∀ (i : Nat) (a : Addr), ad[i]? = some a → ad'[i]? = some a)
    (hh : ∀ a o, shaped o → Held base news a o → Held base' news' a o) : ∀ {v : List AV} {c : List Value}, RVs base fa ad news v c → RVs base' fa ad' news' v c
  | _, _, .nil => .nil
  | _, _, .cons v vs c cs h hs => .cons v vs c cs (RV.move hp hh h) (RVs.move hp hh hs)
end

theorem down_RV (R : Rel C σ h m ad news) {led : Led} {v : AV} {cv : Value} (x : RV C.base C.fa ad news v cv) : RV h C.fa ad led v cv := x.move (fun _ _ h => h) fun a o _ k => .inr (k.get R)
theorem down_RVs (R : Rel C σ h m ad news) {led : Led} {v : List AV} {cv : List Value} (x : RVs C.base C.fa ad news v cv) : RVs h C.fa ad led v cv := x.move (fun _ _ h => h) fun a o _ k => .inr (k.get R)

theorem up_held (R : Rel C σ h m ad news) {b : Addr} {o : Obj} (hs : shaped o ∨ isCellObj o) (x : Held h news' b o) : Held C.base (fullLed C.base C.env.locals h ++ news') b o := by
  rcases x with x | x
  · exact .inl (List.mem_append_right _ x)
  · by_cases hb : C.base.get? b = none
    · refine .inl (List.mem_append_left _ (mem_full x ?_ hb))
      rintro rfl
      obtain ⟨oL, es, ep, e1, e2, _⟩ := R.F.ns
      rw [e1] at x
      cases x
      rcases hs with (⟨_, _, hd⟩ | ⟨_, hd⟩) | ⟨_, hd⟩ <;> rw [hd] at e2 <;> cases e2
    · cases hb' : C.base.get? b with
      | none => exact absurd hb' hb
      | some o' =>
        have := R.F.keep _ _ hb'
        rw [x] at this
        cases this
        exact .inr hb'
theorem up_RV (R : Rel C σ h m ad news) {v : AV} {cv : Value} (x : RV h C.fa ad' news' v cv) : RV C.base C.fa ad' (fullLed C.base C.env.locals h ++ news') v cv := x.move (fun _ _ h => h) fun a o s k => up_held R (.inl s) k
theorem up_RVs (R : Rel C σ h m ad news) {v : List AV} {cv : List Value} (x : RVs h C.fa ad' news' v cv) : RVs C.base C.fa ad' (fullLed C.base C.env.locals h ++ news') v cv := x.move (fun _ _ h => h) fun a o s k => up_held R (.inl s) k

theorem up_RelK (R : Rel C σ h m ad news) (keep : ∀ b o, h.get? b = some o → h'.get? b = some o) (N' : News h C'.env.locals h' news') (M' : RelM C' σ' m' ad' news') (hb : C'.base = h) (hfa : C'.fa = C.fa) (pre : ∀ (i : Nat) (a : Addr), ad[i]? = some a → ad'[i]? = some a) :
    Rel C { σ with objs := σ'.objs } h' m ad' (fullLed C.base C.env.locals h ++ news') := by
  subst hb
  have Rf := R.full
  have lk : Le (C.fz) ad (fullLed C.base C.env.locals C'.base) ad' (fullLed C.base C.env.locals C'.base ++ news') := .all pre fun _ h => List.mem_append_left _ h
  refine ⟨R.F.grownK keep, ?_, ?_⟩
  · intro p hp
    rcases List.mem_append.mp hp with hp | hp
    · exact ⟨keep _ _ (Rf.N p hp).1, (Rf.N p hp).2⟩
    · obtain ⟨e1, e2, e3⟩ := N' p hp
      refine ⟨e1, ?_, ?_⟩
      · rintro h
        obtain ⟨oL, es, ep, e4, _⟩ := R.F.ns
        rw [h, e4] at e3
        cases e3
      · cases hb' : C.base.get? p.1 with
        | none => rfl
        | some o' =>
          have h4 := R.F.keep _ _ hb'
          rw [h4] at e3
          cases e3
  · refine ⟨fun n v hv => ?_, M'.len, fun i l hl => ?_, fun i hi => ?_, M'.inj, fun a ha => ?_, fun hc x hx => ?_⟩
    · obtain ⟨x, cv, e1, e2, e3⟩ := Rf.M.loc n v hv
      exact ⟨x, cv, e1, e2.mono fun _ h => List.mem_append_left _ h, e3.le lk⟩
    · obtain ⟨b, items, o, ha, hd, rs⟩ := M'.obj i l hl
      rw [hfa] at rs
      exact ⟨b, items, o, ha, ⟨up_held R (.inl (.inl (let ⟨k, hk⟩ := hd.2.2; ⟨_, k, hk⟩))) hd.1, hd.2⟩, up_RVs R rs⟩
    · obtain ⟨a', o', ha', ho', hf'⟩ := Rf.M.own i hi
      exact ⟨a', o', pre i a' ha', ⟨List.mem_append_left _ ho'.1, ho'.2⟩, hf'⟩
    · obtain ⟨o, ho, hL⟩ := Rf.M.fzin a ha
      exact ⟨o, ho.mono fun _ h => List.mem_append_left _ h, hL⟩
    · obtain ⟨c, o, h1, h2, h3⟩ := Rf.M.cells hc x hx
      exact ⟨c, o, h1, List.mem_append_left _ h2, h3⟩
theorem up_Rel (R : Rel C σ h m ad news) (R' : Rel C' σ' h' m' ad' news') (hb : C'.base = h) (hfa : C'.fa = C.fa) (pre : ∀ (i : Nat) (a : Addr), ad[i]? = some a → ad'[i]? = some a) :
    Rel C { σ with objs := σ'.objs } h' m ad' (fullLed C.base C.env.locals h ++ news') := up_RelK R (hb ▸ R'.F.keep) (hb ▸ R'.N) R'.M hb hfa pre
theorem up_Le (R : Rel C σ h m ad news) (pre : ∀ (i : Nat) (a : Addr), ad[i]? = some a → ad'[i]? = some a) : Le C.fz ad news ad' (fullLed C.base C.env.locals h ++ news') :=
  .all pre fun p hm => List.mem_append_left _ (mem_full (R.N _ hm).1 (R.N _ hm).2.1 (R.N _ hm).2.2)

theorem Rel.update (R : Rel C σ h m ad news) {i : Nat} {D : Addr} {o' : Obj} {l : List AV} {items : List Value} (hi : ad[i]? = some D) (hm : ∃ o its, (D, o) ∈ news ∧ IsL o its) (hox : IsLx o' items)
    (hs : Heap.SameBut D h h') (hg : h'.get? D = some o') (hl : RVs C.base C.fa ad news l items) :
    Rel C { σ with objs := σ.objs.set i l } h' m ad ((D, o') :: news.filter fun p => p.1 != D) := by
  have ho := hox.toL
  obtain ⟨o₀, its₀, hm, hL₀⟩ := hm
  have hgD := (R.N _ hm).1
  have keep : ∀ b o, b ≠ D → h.get? b = some o → h'.get? b = some o := fun b o hb e => (hs.2 b hb).trans e
  have hDL : D ≠ C.env.locals := (R.N _ hm).2.1
  have other : ∀ (b : Addr) (o : Obj), (b, o) ∈ news → b ≠ D → (b, o) ∈ (D, o') :: news.filter fun p => p.1 != D := fun b o hb hne => .tail _ (List.mem_filter.mpr ⟨hb, by simpa using hne⟩)
  have notD : ∀ (b : Addr) (o : Obj), Held C.base news b o → ¬ (∃ its, IsL o its) → b ≠ D := by
    rintro b o hb hn rfl
    have := hb.get R
    rw [hgD] at this
    cases this
    exact hn ⟨_, hL₀⟩
  have heldO : ∀ (b : Addr) (o : Obj), Held C.base news b o → b ≠ D → Held C.base ((D, o') :: news.filter fun p => p.1 != D) b o := fun b o hb hne => hb.elim (fun y => .inl (other _ _ y hne)) .inr
  have rv : ∀ {v : AV} {cv : Value}, RV C.base C.fa ad news v cv → RV C.base C.fa ad ((D, o') :: news.filter fun p => p.1 != D) v cv := by
    intro v cv x
    refine x.leT ⟨fun _ _ h => h, fun a o hm' hc => other _ _ hm' (notD _ _ (.inl hm') ?_)⟩
    rintro ⟨its, h1, _⟩
    rcases hc with hc | hc <;> rw [h1] at hc <;> exact absurd hc (by decide)
  have rvs : ∀ {v : List AV} {cv : List Value}, RVs C.base C.fa ad news v cv → RVs C.base C.fa ad ((D, o') :: news.filter fun p => p.1 != D) v cv := by
    intro v cv x
    refine x.leT ⟨fun _ _ h => h, fun a o hm' hc => other _ _ hm' (notD _ _ (.inl hm') ?_)⟩
    rintro ⟨its, h1, _⟩
    rcases hc with hc | hc <;> rw [h1] at hc <;> exact absurd hc (by decide)
  have cellNot : ∀ (b : Addr) (o : Obj), Held C.base news b o → isCellObj o → b ≠ D := by
    rintro b o hb ⟨v, hv⟩
    refine notD b o hb ?_
    rintro ⟨its, _, n, h2⟩
    rw [hv] at h2
    cases h2
  refine ⟨⟨(R.F.ns.sameBut hs hDL.symm), fun b o e => keep b o (fun e' => ?_) (R.F.keep b o e), R.F.above⟩, ?_, ?_⟩
  · subst e'
    rw [(R.N _ hm).2.2] at e
    cases e
  · intro p hp
    rcases List.mem_cons.mp hp with rfl | hp
    · exact ⟨hg, (R.N _ hm).2⟩
    · obtain ⟨h1, h2⟩ := List.mem_filter.mp hp
      exact ⟨keep _ _ (by simpa using h2) (R.N p h1).1, (R.N p h1).2⟩
  · refine ⟨fun n v hv => ?_, by simp [R.M.len], fun j k hk => ?_, fun j hj => ?_, R.M.inj, fun a ha => ?_, fun hc x hx => ?_⟩
    · obtain ⟨x, cv, h1, h2, h3⟩ := R.M.loc n v hv
      refine ⟨x, cv, h1, ?_, rv h3⟩
      unfold VarAt at h2 ⊢
      split
      · rename_i hx
        rw [if_pos hx] at h2
        obtain ⟨c, o, e1, e2, e3⟩ := h2
        exact ⟨c, o, e1, heldO _ _ e2 (cellNot _ _ e2 ⟨_, e3⟩), e3⟩
      · rename_i hx
        rw [if_neg hx] at h2
        exact h2
    · by_cases hij : j = i
      · subst hij
        have hlt : j < σ.objs.length := by
          have := (List.getElem?_eq_some_iff.mp hi).1
          rw [R.M.len] at this
          exact this
        simp only [List.getElem?_set_self hlt, Option.some.injEq] at hk
        subst hk
        exact ⟨D, items, o', hi, ⟨.inl (.head _), ho⟩, rvs hl⟩
      · simp only [List.getElem?_set_ne (fun h => hij h.symm)] at hk
        obtain ⟨a, its, o, h1, h2, h3⟩ := R.M.obj j k hk
        have hne : a ≠ D := by
          rintro rfl
          exact hij (R.M.inj j i a h1 hi)
        exact ⟨a, its, o, h1, ⟨heldO _ _ h2.1 hne, h2.2⟩, rvs h3⟩
    · obtain ⟨a, o, h1, h2, h3⟩ := R.M.own j hj
      by_cases hne : a = D
      · subst hne
        exact ⟨a, o', h1, ⟨.head _, items, hox⟩, h3⟩
      · exact ⟨a, o, h1, ⟨other _ _ h2.1 hne, h2.2⟩, h3⟩
    · obtain ⟨o, ho'', hL⟩ := R.M.fzin a ha
      by_cases hne : a = D
      · subst hne
        exact ⟨o', .inl (.head _), items, ho⟩
      · exact ⟨o, heldO _ _ ho'' hne, hL⟩
    · obtain ⟨c, o, h1, h2, h3⟩ := R.M.cells hc x hx
      exact ⟨c, o, h1, other _ _ h2 (cellNot _ _ (.inl h2) h3), h3⟩
theorem update_Le {D : Addr} {o' : Obj} (hD : D ∉ C.fz) (hm : ∀ o, (D, o) ∈ news → o.cls = .type "list") : Le C.fz ad news ad ((D, o') :: news.filter fun p => p.1 != D) :=
  ⟨fun _ _ h => h, fun a o hmem hk => by
    refine .tail _ (List.mem_filter.mpr ⟨hmem, ?_⟩)
    simp only [bne_iff_ne, ne_eq]
    rintro rfl
    rcases hk with h | h
    · exact hD h
    · exact h.1 (hm o hmem)⟩
end
end Mine
namespace Mine
open PySem PySem.W PySem.Calls PyProof.Rows PyProof.V PySem.Spec

theorem nodup_inj {α : Type} {l : List α} (nd : l.Nodup) {i j : Nat} {x : α} (hi : l[i]? = some x) (hj : l[j]? = some x) : i = j := by
  have e1 := List.getElem?_eq_some_iff.mp hi
  have e2 := List.getElem?_eq_some_iff.mp hj
  have key := List.pairwise_iff_getElem.mp nd
  rcases Nat.lt_trichotomy i j with h | h | h
  · exact absurd (e1.2.trans e2.2.symm) (key i j e1.1 e2.1 h)
  · exact h
  · exact absurd (e2.2.trans e1.2.symm) (key j i e2.1 e1.1 h)

section
variable {C : Cx} {σ : St} {s : Shared} {m : Str → Option Value} {ad : List Addr} {news : Led}

noncomputable def plainIter (h : Heap) (I : Addr) : Prop := ∃ o n vs, h.get? I = some o ∧ o.cls = .type n ∧ o.data = .fields vs ∧ (n = "list_iterator" ∨ n = "range_iterator" ∨ n = "tuple_iterator")
theorem letOwned {M : Model} {A : Around} {E : Value → Shared → Prop} {target : Expr} {I : Addr} {v : Value} {Q : Unit → Shared → Prop} (h : plainIter s.heap I) (q : Q () s) : wpAny M A (letOwnedTupleGo target (.ref I) v) Q E s := by
  obtain ⟨o, n, vs, h1, h2, h3, h4⟩ := h
  have key : ∀ (v : Value), wpAny M A (do
    let (.ref r, .ref a) := ((.ref I : Value), v) | return
    let o ← load r
    match o.cls, o.data with
    | .type n, .fields vs =>
      if ["enumerate", "zip", "dict_itemiterator", "dict_reverseitemiterator", "odict_iterator", "itertools.zip_longest", "itertools.pairwise"].contains n && vs[0]? == some (rawInt a) then
        rule "for.unpacks-the-owned-tuple"
        updateField r 0 .none
    | _, _ => pure ()) Q E s := by
    intro v
    cases v <;> first | exact wpAny_pure q | skip
    refine wpAny_bind (wpAny_load h1 ?_)
    rw [h2, h3]
    have hn : (["enumerate", "zip", "dict_itemiterator", "dict_reverseitemiterator", "odict_iterator", "itertools.zip_longest", "itertools.pairwise"].contains n) = false := by
      rcases h4 with rfl | rfl | rfl <;> decide
    simp only [hn, Bool.false_and, Bool.false_eq_true, if_false]
    exact wpAny_pure q
  cases target <;> first | exact wpAny_pure q | exact key v

theorem RelM.set (R : RelM C σ m ad news) (nd : C.K.names.Nodup) {n : Nat} {x : Str} {v : AV} {cv : Value} (hx : C.K.names[n]? = some x) (hc : x ∉ C.K.cells) (rv : RV C.base C.fa ad news v cv) :
    RelM C (σ.set n v) (fun y => if y = x then some cv else m y) ad news := by
  refine ⟨fun k u h => ?_, R.len, R.obj, R.own, R.inj, R.fzin, R.cells⟩
  simp only [St.set, upd] at h
  by_cases hk : k = n
  · subst hk
    simp only [if_true, Option.some.injEq] at h
    subst h
    exact ⟨x, cv, hx, by unfold VarAt; rw [if_neg hc]; simp, rv⟩
  · simp only [hk, if_false] at h
    obtain ⟨y, cu, h1, h2, h3⟩ := R.loc k u h
    refine ⟨y, cu, h1, ?_, h3⟩
    have hne : y ≠ x := by
      rintro rfl
      exact hk (nodup_inj nd h1 hx)
    unfold VarAt at h2 ⊢
    split
    · rename_i hy; rw [if_pos hy] at h2; exact h2
    · rename_i hy; rw [if_neg hy] at h2; simp [hne, h2]

theorem store_sound (ok : CxOK C) {n : Nat} {x : Str} {v : AV} {cv : Value} {P : Unit → Shared → Prop} (hx : C.K.names[n]? = some x)
    (hoc : x ∈ C.K.cells → C.ownCells = true) (R : Rel C σ s.heap m ad news) (rv : RV C.base C.fa ad news v cv)
    (h : ∀ h' tk m' news', Rel C (σ.set n v) h' m' ad news' → Le C.fz ad news ad news' → P () { s with heap := h', toks := tk }) : Wp C (storeName C.env x cv) P s := by
  obtain ⟨hd, hl, hc⟩ := ok.locs x (List.mem_of_getElem? hx)
  by_cases hcell : x ∈ C.K.cells
  · obtain ⟨c, o, h1, h2, hco⟩ := R.M.cells (hoc hcell) x hcell
    obtain ⟨v₀, hv₀⟩ := hco
    have hgc := (R.N _ h2).1
    refine wpAny_storeName_cell ok.kind (hc hcell) h1 ⟨o, hgc, hv₀⟩ fun h' hic hs => ?_
    obtain ⟨o', ho', hd'⟩ := hic
    have keep : ∀ b o, b ≠ c → s.heap.get? b = some o → h'.get? b = some o := fun b o hb e => (hs.2 b hb).trans e
    have other : ∀ (b : Addr) (o : Obj), (b, o) ∈ news → b ≠ c → (b, o) ∈ (c, o') :: news.filter fun p => p.1 != c := fun b o hb hne => .tail _ (List.mem_filter.mpr ⟨hb, by simpa using hne⟩)
    have notC : ∀ (b : Addr) (o : Obj), Held C.base news b o → ¬ isCellObj o → b ≠ c := by
      rintro b o hb hn rfl
      have := hb.get R
      rw [hgc] at this
      cases this
      exact hn ⟨_, hv₀⟩
    have heldO : ∀ (b : Addr) (o : Obj), Held C.base news b o → b ≠ c → Held C.base ((c, o') :: news.filter fun p => p.1 != c) b o := fun b o hb hne => hb.elim (fun y => .inl (other _ _ y hne)) .inr
    have lk : Le C.fz ad news ad ((c, o') :: news.filter fun p => p.1 != c) := ⟨fun _ _ h => h, fun a o hm hk => by
      refine other _ _ hm (notC _ _ (.inl hm) ?_)
      rcases hk with hk | hk
      · rintro ⟨w, hw⟩
        obtain ⟨o2, ho2, its, _, n2, hd2⟩ := R.M.fzin a hk
        have e2 := ho2.get R
        rw [(R.N _ hm).1] at e2
        cases e2
        rw [hw] at hd2
        cases hd2
      · exact hk.2⟩
    have hcL : c ≠ C.env.locals := (R.N _ h2).2.1
    have listNot : ∀ (b : Addr) (o : Obj), Held C.base news b o → (∃ its, IsL o its) → b ≠ c := by
      rintro b o hb ⟨its, _, n, hn⟩
      refine notC b o hb ?_
      rintro ⟨w, hw⟩
      rw [hw] at hn
      cases hn
    refine h h' s.toks m ((c, o') :: news.filter fun p => p.1 != c) ⟨⟨R.F.ns.sameBut hs hcL.symm, fun b o e => keep b o (fun e' => ?_) (R.F.keep b o e), R.F.above⟩, ?_, ?_⟩ lk
    · subst e'
      rw [(R.N _ h2).2.2] at e
      cases e
    · intro p hp
      rcases List.mem_cons.mp hp with rfl | hp
      · exact ⟨ho', (R.N _ h2).2⟩
      · obtain ⟨e1, e2⟩ := List.mem_filter.mp hp
        exact ⟨keep _ _ (by simpa using e2) (R.N p e1).1, (R.N p e1).2⟩
    · refine ⟨fun k u hk => ?_, R.M.len, fun j l hl => ?_, fun j hj => ?_, R.M.inj, fun a ha => ?_, fun hc' y hy => ?_⟩
      · simp only [St.set, upd] at hk
        by_cases hkn : k = n
        · subst hkn
          simp only [if_true, Option.some.injEq] at hk
          subst hk
          exact ⟨x, cv, hx, by unfold VarAt; rw [if_pos hcell]; exact ⟨c, o', h1, .inl (.head _), hd'⟩, rv.le lk⟩
        · simp only [hkn, if_false] at hk
          obtain ⟨y, cu, g1, g2, g3⟩ := R.M.loc k u hk
          have hne : y ≠ x := by
            rintro rfl
            exact hkn (nodup_inj ok.nodup g1 hx)
          refine ⟨y, cu, g1, ?_, g3.le lk⟩
          unfold VarAt at g2 ⊢
          split
          · rename_i hy
            rw [if_pos hy] at g2
            obtain ⟨d, od, f1, f2, f3⟩ := g2
            refine ⟨d, od, f1, heldO _ _ f2 ?_, f3⟩
            rintro rfl
            exact hne (ok.cellinj y hy x hcell d f1 h1)
          · rename_i hy
            rw [if_neg hy] at g2
            exact g2
      · obtain ⟨a, its, oo, g1, g2, g3⟩ := R.M.obj j l hl
        exact ⟨a, its, oo, g1, ⟨heldO _ _ g2.1 (listNot _ _ g2.1 ⟨_, g2.2⟩), g2.2⟩, g3.le lk⟩
      · obtain ⟨a, oo, g1, g2, g3⟩ := R.M.own j hj
        exact ⟨a, oo, g1, ⟨other _ _ g2.1 (listNot _ _ (.inl g2.1) (g2.2.imp fun _ h => h.toL)), g2.2⟩, g3⟩
      · obtain ⟨oo, g1, g2⟩ := R.M.fzin a ha
        exact ⟨oo, heldO _ _ g1 (listNot _ _ g1 g2), g2⟩
      · obtain ⟨d, od, g1, g2, g3⟩ := R.M.cells hc' y hy
        by_cases hd : d = c
        · subst hd
          exact ⟨d, o', g1, .head _, _, hd'⟩
        · exact ⟨d, od, g1, other _ _ g2 hd, g3⟩
  · refine wpAny_storeName_local (hl hcell) R.F.ns (fun h' hn hs => ?_) (by rw [ok.kind]; rfl)
    exact h h' (s.toks + 1) _ news ⟨R.F.set hn hs, R.N.set hs, R.M.set ok.nodup hx hcell rv⟩ Le.refl
end
end Mine
namespace Mine
open PySem PySem.W PySem.Calls PyProof.Rows PyProof.V PySem.Spec

noncomputable def Tgt.ids : Tgt → List Nat
  | .name n => [n]
  | .tup ns => ns
section
variable {C : Cx} {σ : St} {s : Shared} {m : Str → Option Value} {ad : List Addr} {news : Led}

noncomputable def mayStore (C : Cx) (ns : List Nat) : Prop := ∀ n ∈ ns, ∀ x, C.K.names[n]? = some x → x ∈ C.K.cells → C.ownCells = true

theorem inOrder_sound (ok : CxOK C) {P : Unit → Shared → Prop} : ∀ (ns : List Nat) (es : List Expr) (vs : List AV) (cvs : List Value) (σ : St) (s : Shared) (m : Str → Option Value) (news : Led),
    ns.length = es.length → ((ns.zip es).all fun p => match p.2 with | .Name x _ => C.K.names[p.1]? == some x | _ => false) = true → mayStore C ns → vs.length = ns.length → RVs C.base C.fa ad news vs cvs → Rel C σ s.heap m ad news →
    (∀ h' tk m' news', Rel C (setAll σ ns vs) h' m' ad news' → Le C.fz ad news ad news' → P () { s with heap := h', toks := tk }) → Wp C (assignInOrder ((assignEach es C.env).map (·.2)) cvs) P s
  | [], [], [], cvs, σ, s, m, news, _, _, _, _, rv, R, h => assignInOrder_nil (h s.heap s.toks m news R Le.refl)
  | [], [], _ :: _, cvs, σ, s, m, news, _, _, _, h, _, _, _ => by cases h
  | [], _ :: _, _, cvs, σ, s, m, news, h, _, _, _, _, _, _ => by cases h
  | _ :: _, [], _, cvs, σ, s, m, news, h, _, _, _, _, _, _ => by cases h
  | _ :: _, _ :: _, [], cvs, σ, s, m, news, _, _, _, h, _, _, _ => by cases h
  | n :: ns, e :: es, v :: vs, cvs, σ, s, m, news, hl, hz, hs, hv, rv, R, h => by
    cases rv with | cons _ _ cv cvs' rv rvs =>
    simp only [List.zip_cons_cons, List.all_cons, Bool.and_eq_true] at hz
    obtain ⟨hz1, hz2⟩ := hz
    cases e <;> first | (cases hz1; done) | skip
    rename_i x px
    have hx : C.K.names[n]? = some x := eq_of_beq hz1
    show Wp C (assignInOrder (assign (.Name x px) C.env :: (assignEach es C.env).map (·.2)) (cv :: cvs')) P s
    refine assignInOrder_cons (PyProof.Rows.assign_Name (store_sound ok hx (fun hc => hs n (.head _) x hx hc) R rv fun h' tk m' news' R' l' => ?_))
    refine inOrder_sound ok ns es vs cvs' (σ.set n v) { s with heap := h', toks := tk } m' news' (by simpa using hl) hz2 (fun k hk => hs k (.tail _ hk)) (by simpa using hv) (rvs.le l') R' fun h₂ tk₂ m₂ news₂ R₂ l₂ => ?_
    exact h h₂ tk₂ m₂ news₂ R₂ (l'.trans l₂)

theorem each_len (env : Env) : ∀ es : List Expr, (assignEach es env).length = es.length
  | [] => rfl
  | e :: es => by
    have := each_len env es
    cases e <;> simp [assignEach, this]
theorem each_star (env : Env) (K : Keys) : ∀ (ns : List Nat) (es : List Expr), ns.length = es.length → ((ns.zip es).all fun p => match p.2 with | .Name x _ => K.names[p.1]? == some x | _ => false) = true → (assignEach es env).findIdx? (·.1) = none
  | [], [], _, _ => rfl
  | n :: ns, e :: es, hl, hz => by
    simp only [List.zip_cons_cons, List.all_cons, Bool.and_eq_true] at hz
    have := each_star env K ns es (by simpa using hl) hz.2
    cases e <;> first | (cases hz.1; done) | skip
    simp [assignEach, List.findIdx?_cons, this]
  | [], _ :: _, h, _ => by cases h
  | _ :: _, [], h, _ => by cases h

theorem bind_sound (ok : CxOK C) {t : Tgt} {e : Expr} {v : AV} {cv : Value} {K : St → Prop} {P : Unit → Shared → Prop} (hm : mT C.K t e = true) (hs : mayStore C t.ids) (q : bindW t v σ K) (R : Rel C σ s.heap m ad news) (rv : RV C.base C.fa ad news v cv)
    (h : ∀ σ' h' tk m' news', K σ' → Rel C σ' h' m' ad news' → Le C.fz ad news ad news' → P () { s with heap := h', toks := tk }) : Wp C (assign e C.env cv) P s := by
  cases t with
  | name n =>
    cases e <;> first | (cases hm; done) | skip
    rename_i x px
    exact PyProof.Rows.assign_Name (store_sound ok (eq_of_beq hm) (fun hc => hs n (.head _) x (eq_of_beq hm) hc) R rv fun h' tk m' news' R' l' => h _ h' tk m' news' q R' l')
  | tup ns =>
    cases e <;> first | (cases hm; done) | skip
    rename_i es k pos
    simp only [mT, Bool.and_eq_true, beq_iff_eq] at hm
    have core : ∀ (items : List Value) (l : List AV) (h' : Heap), RVs C.base C.fa ad news l items → l.length = ns.length → K (setAll σ ns l) → Rel C σ h' m ad news → Wp C (assignInOrder ((assignEach es C.env).map (·.2)) items) P { s with heap := h' } :=
      fun items l h' rvs hl q' R' => inOrder_sound ok ns es l items σ { s with heap := h' } m news hm.1 hm.2 hs hl rvs R' fun h₂ tk₂ m₂ news₂ R₂ l₂ => h _ h₂ tk₂ m₂ news₂ q' R₂ l₂
    simp only [bindW, partsW] at q
    split at q
    · rename_i l
      obtain ⟨hl, q⟩ := q
      cases rv with | tup _ items a n hd rvs =>
      refine unpackN_ R.F R.N (t := a) (items := items.toArray) ⟨_, hd.get R, rfl, _, rfl⟩ ok.hh (by rw [each_len]; simp only [List.size_toArray]; rw [← rvs.length, hl, hm.1]) (each_star _ _ ns es hm.1 hm.2) fun h' F' N' => ?_
      exact core items l h' rvs hl q (R.heap F' N')
    · rename_i j
      obtain ⟨l, hj, hl, q⟩ := q
      cases rv with | lst _ a ha =>
      obtain ⟨items, L1, rvs⟩ := isList R hj ha
      refine kun_list R.F R.N (l := a) (items := items.toArray) L1 ok.hh (by rw [each_len]; simp only [List.size_toArray]; rw [← rvs.length, hl, hm.1]) (each_star _ _ ns es hm.1 hm.2) fun h' F' N' => ?_
      exact core items l h' rvs hl q (R.heap F' N')
    · exact q.elim
end
end Mine
namespace Mine
open PySem PySem.W PySem.Calls PyProof.Rows PyProof.V PySem.Spec

structure Iter (C : Cx) (items : List AV) (ad : List Addr) (news : Led) (I : Addr) (fp fs : List Addr) (P : Nat → Value → Prop) (St : Nat → Heap → Prop) : Prop where
  W : Walks C.prog C.w C.A I fp [I] items.length P St
  item : ∀ i cv, P i cv → i < items.length → ∃ u, items[i]? = some u ∧ RV C.base C.fa ad news u cv
  fpIn : ∀ b ∈ fp, b = I ∨ ∃ o, Held C.base news b o ∧ (b ∈ fs ∨ (o.cls ≠ .type "list" ∧ ¬ isCellObj o))
  plain : ∀ i h, St i h → plainIter h I

noncomputable def fsOf (v : AV) (ad : List Addr) (fs : List Addr) : Prop := (∃ j ax, v = .lst j ∧ ad[j]? = some ax ∧ fs = [ax]) ∨ ((∀ j, v ≠ .lst j) ∧ fs = [])

theorem it_bad {h : Heap} {I : Addr} (p : plainIter h I) : ∃ o, h.get? I = some o ∧ ¬ good o := by
  obtain ⟨o, n, v, e, c, d, t⟩ := p
  refine ⟨o, e, ?_⟩
  rintro (h | h | h | ⟨w, h⟩)
  · rw [c] at h; rcases t with rfl | rfl | rfl <;> exact absurd h (by decide)
  · rw [c] at h; rcases t with rfl | rfl | rfl <;> exact absurd h (by decide)
  · rw [c] at h; rcases t with rfl | rfl | rfl <;> exact absurd h (by decide)
  · rw [d] at h; cases h
theorem bad_keep {o : Obj} (h : ¬ good o) : o.cls ≠ .type "list" ∧ ¬ isCellObj o := ⟨fun x => h (.inr (.inl x)), fun x => h (.inr (.inr (.inr x)))⟩
theorem sub_filter {base h : Heap} {L I : Addr} {news : Led} {oI : Obj} (N : News base L h news) (hI : (I, oI) ∈ news) (hb : ¬ good oI) (a : Addr) (o : Obj) (hm : (a, o) ∈ news) (hg : good o) : (a, o) ∈ news.filter fun p => p.1 != I := by
  refine List.mem_filter.mpr ⟨hm, ?_⟩
  simp only [bne_iff_ne, ne_eq]
  rintro rfl
  have e1 := (N _ hm).1
  have e2 := (N _ hI).1
  rw [e1] at e2
  cases e2
  exact hb hg
theorem keep_it {base h h' : Heap} {L I : Addr} {m : Str → Option Value} {news : Led} (F : Fr base L h m) (N : News base L h news) (fresh : base.get? I = none) (hIL : I ≠ L) (hn : ∀ p ∈ news, p.1 ≠ I)
    (hk : ∀ b o', b ∉ [I] → h.get? b = some o' → h'.get? b = some o') : Fr base L h' m ∧ News base L h' news := by
  refine ⟨⟨Heap.Ns.at' F.ns fun o' e => hk _ o' (fun hb => hIL (List.mem_singleton.mp hb).symm) e, fun b o' e => hk b o' (fun hb => ?_) (F.keep b o' e), F.above⟩, fun p hp => ⟨hk _ _ (fun hb => hn p hp (List.mem_singleton.mp hb)) (N p hp).1, (N p hp).2⟩⟩
  have hb := List.mem_singleton.mp hb
  subst hb
  rw [fresh] at e
  cases e

section
variable {C : Cx} {σ : St} {s : Shared} {m : Str → Option Value} {ad : List Addr} {news : Led}

theorem iter_sound (ok : CxOK C) {v : AV} {cv : Value} {K : List AV → Prop} {Q : Value → Shared → Prop} (q : itemsW v σ K) (R : Rel C σ s.heap m ad news) (rv : RV C.base C.fa ad news v cv)
    (h : ∀ items io fp fs P St, K items → Iter C items ad news s.heap.objs.size fp fs P St → fsOf v ad fs → St 0 (s.heap.push io) → (∀ b ∈ fp, b ≤ s.heap.objs.size) → Q (.ref s.heap.objs.size) { s with heap := s.heap.push io }) :
    Wp C (pyIter cv) Q s := by
  unfold itemsW at q
  split at q
  · rename_i a b c
    obtain ⟨⟨hsm, hc⟩, q⟩ := q
    cases rv with | rng _ _ _ r t u w hd =>
    have hr : IsRange s.heap r a b c t u w := hd.get R
    have hn : (Builtin.Range.rangeSize a b c) = ((Builtin.Range.rangeSize a b c).toNat : Int) := by
      have e0 : 0 ≤ Builtin.Range.rangeSize a b c := by
        unfold Builtin.Range.rangeSize
        rw [if_pos hc]
        split
        · have := Int.ediv_nonneg (a := b - a - 1) (b := c) (by omega) (by omega)
          omega
        · omega
      omega
    have hlen : (rngItems a b c).length = (Builtin.Range.rangeSize a b c).toNat := by simp [rngItems]
    refine wpAny_pyIter_range hr hsm (h (rngItems a b c) _ [s.heap.objs.size] [] _ _ q ⟨by rw [hlen]; exact (Walks.range ok.hh s.heap.objs.size a c _), ?_, ?_, ?_⟩ (.inr ⟨fun j h => (by cases h), rfl⟩) ?_ ?_)
    · rintro i cv ⟨t', rfl⟩ hi
      rw [hlen] at hi
      refine ⟨.int (a + (i : Int) * c), ?_, .int _ _⟩
      simp [rngItems, hi]
    · intro b hb
      exact .inl (List.mem_singleton.mp hb)
    · intro i h st
      exact ⟨_, _, _, st, rfl, rfl, .inr (.inl rfl)⟩
    · show IsRangeIter _ _ _ _ _
      rw [hn]
      simpa using Heap.get?_push_size _ rfl
    · intro b hb
      rw [List.mem_singleton.mp hb]
      exact Nat.le_refl _
  · rename_i j
    obtain ⟨l, hj, q⟩ := q
    cases rv with | lst _ ax ha =>
    obtain ⟨items, L1, rvs⟩ := isList R hj ha
    have hlt : ax < s.heap.objs.size := R.lt ha
    obtain ⟨a', its, o, h1, h2, h3⟩ := R.M.obj j l hj
    rw [ha] at h1
    cases h1
    refine wpAny_pyIter_list L1 (h l _ [s.heap.objs.size, ax] [ax] _ _ q ⟨by rw [rvs.length, ← List.size_toArray]; exact Walks.list ok.hh s.heap.objs.size ax (Nat.ne_of_lt hlt) items.toArray, ?_, ?_, ?_⟩ (.inl ⟨j, ax, rfl, ha, rfl⟩) ?_ ?_)
    · intro i cv hp hi
      obtain ⟨cv', e1, e2⟩ := rvs.get i _ (List.getElem?_eq_getElem hi)
      have : items[i]? = some cv := by simpa using hp
      rw [e1] at this
      cases this
      exact ⟨_, List.getElem?_eq_getElem hi, e2⟩
    · intro b hb
      rcases List.mem_cons.mp hb with rfl | hb
      · exact .inl rfl
      · have := List.mem_singleton.mp hb
        subst this
        exact .inr ⟨o, h2.1, .inl (.head _)⟩
    · rintro i h ⟨⟨o, e1, e2, e3⟩, _⟩
      exact ⟨o, _, _, e1, e2, e3, .inl rfl⟩
    · exact ⟨⟨_, Heap.get?_push_size _ rfl, rfl, rfl⟩, L1.push _⟩
    · intro b hb
      rcases List.mem_cons.mp hb with rfl | hb
      · exact Nat.le_refl _
      · rw [List.mem_singleton.mp hb]; exact Nat.le_of_lt hlt
  · rename_i l
    cases rv with | tup _ items ax n hd rvs =>
    have hg := hd.get R
    have hlt : ax < s.heap.objs.size := Heap.lt_size hg
    have T1 : s.heap.IsTuple ax items.toArray := ⟨_, hg, rfl, n, rfl⟩
    refine wpAny_pyIter_tuple T1 (h l _ [s.heap.objs.size, ax] [] _ _ q ⟨by rw [rvs.length, ← List.size_toArray]; exact Walks.tuple ok.hh s.heap.objs.size ax (Nat.ne_of_lt hlt) items.toArray, ?_, ?_, ?_⟩ (.inr ⟨fun j h => (by cases h), rfl⟩) ?_ ?_)
    · intro i cv hp hi
      obtain ⟨cv', e1, e2⟩ := rvs.get i _ (List.getElem?_eq_getElem hi)
      have : items[i]? = some cv := by simpa using hp
      rw [e1] at this
      cases this
      exact ⟨_, List.getElem?_eq_getElem hi, e2⟩
    · intro b hb
      rcases List.mem_cons.mp hb with rfl | hb
      · exact .inl rfl
      · have := List.mem_singleton.mp hb
        subst this
        exact .inr ⟨_, hd, .inr ⟨by simp, by rintro ⟨v, h⟩; cases h⟩⟩
    · rintro i h ⟨⟨o, e1, e2, e3⟩, _⟩
      exact ⟨o, _, _, e1, e2, e3, .inr (.inr rfl)⟩
    · exact ⟨⟨_, Heap.get?_push_size _ rfl, rfl, rfl⟩, T1.push _⟩
    · intro b hb
      rcases List.mem_cons.mp hb with rfl | hb
      · exact Nat.le_refl _
      · rw [List.mem_singleton.mp hb]; exact Nat.le_of_lt hlt
  · exact q.elim

theorem RelM.freeze (R : RelM C σ m ad news) {v : AV} {cv : Value} {fs : List Addr} (hf : fsOf v ad fs) (hl : ∀ j, v = .lst j → ∃ l, σ.objs[j]? = some l) : RelM { C with fz := fs ++ C.fz } { σ with own := frozen v σ.own } m ad news := by
  rcases hf with ⟨j, ax, rfl, ha, rfl⟩ | ⟨hn, rfl⟩
  · refine ⟨R.loc, R.len, R.obj, fun i hi => ?_, R.inj, fun a ha' => ?_, R.cells⟩
    · simp only [frozen, List.mem_filter, bne_iff_ne, ne_eq] at hi
      obtain ⟨a, o, h1, h2, h3⟩ := R.own i hi.1
      refine ⟨a, o, h1, h2, ?_⟩
      show a ∉ [ax] ++ C.fz
      simp only [List.cons_append, List.nil_append, List.mem_cons, not_or]
      refine ⟨?_, h3⟩
      rintro rfl
      exact hi.2 (R.inj i j a h1 ha)
    · have ha' : a ∈ [ax] ++ C.fz := ha'
      simp only [List.cons_append, List.nil_append, List.mem_cons] at ha'
      rcases ha' with rfl | ha'
      · obtain ⟨l, hl⟩ := hl j rfl
        obtain ⟨a', its, o, h1, h2, h3⟩ := R.obj j l hl
        rw [ha] at h1
        cases h1
        exact ⟨o, h2.1, its, h2.2⟩
      · exact R.fzin a ha'
  · have e : frozen v σ.own = σ.own := by cases v <;> first | rfl | (exact absurd rfl (hn _))
    rw [e]
    exact ⟨R.loc, R.len, R.obj, R.own, R.inj, R.fzin, R.cells⟩
theorem RelM.thaw {v : AV} {fs : List Addr} {σ' : St} {m' : Str → Option Value} {ad' : List Addr} {news' : Led} (R : RelM { C with fz := fs ++ C.fz } σ' m' ad' news') (hf : fsOf v ad fs) (R₀ : RelM C σ m ad news) (l : Le (fs ++ C.fz) ad news ad' news') :
    RelM C { σ' with own := thawed v σ.own σ'.own } m' ad' news' := by
  have own' : ∀ i ∈ σ'.own, ∃ (a : Addr) (o : Obj), ad'[i]? = some a ∧ ((a, o) ∈ news' ∧ (∃ its, IsLx o its)) ∧ a ∉ C.fz := fun i hi => by
    obtain ⟨a, o, h1, h2, h3⟩ := R.own i hi
    exact ⟨a, o, h1, h2, fun h => h3 (List.mem_append_right _ h)⟩
  refine ⟨R.loc, R.len, R.obj, fun i hi => ?_, R.inj, fun a ha => R.fzin a (List.mem_append_right _ ha), R.cells⟩
  rcases hf with ⟨j, ax, rfl, ha, rfl⟩ | ⟨hn, rfl⟩
  · simp only [thawed] at hi
    split at hi
    · rename_i hc
      rcases List.mem_cons.mp hi with rfl | hi
      · obtain ⟨a, o, h1, h2, h3⟩ := R₀.own i (List.contains_iff_mem.mp hc)
        rw [ha] at h1
        cases h1
        exact ⟨ax, o, l.pre _ _ ha, ⟨l.keep _ _ h2.1 (.inl (List.mem_append_left _ (.head _))), h2.2⟩, h3⟩
      · exact own' i hi
    · exact own' i hi
  · have e : thawed v σ.own σ'.own = σ'.own := by cases v <;> first | rfl | (exact absurd rfl (hn _))
    rw [e] at hi
    exact own' i hi
end
end Mine
namespace Mine
open PySem PySem.W PySem.Calls PyProof.Rows PyProof.V PySem.Spec

theorem clos_go (env : Env) : ∀ (names : List (Str × NameKind)) (cs : List (Str × Addr)), (∀ y ∈ names, y.2 = .free → ∃ c, env.cells.lookup y.1 = some c) →
    ∃ cl, (forIn names cs fun (x : Str × NameKind) cs => (match x with | (name, kind) => if (kind == .free) = true then (do let a ← cellOf env name; pure (ForInStep.yield ((name, a) :: cs))) else pure (ForInStep.yield cs)) : Sem (List (Str × Addr))) = pure cl ∧
      (∀ x c, cl.lookup x = some c → cs.lookup x = some c ∨ env.cells.lookup x = some c) ∧ (∀ y ∈ names, y.2 = .free → ∃ c, cl.lookup y.1 = some c) ∧ (∀ x, (∃ c, cs.lookup x = some c) → ∃ c, cl.lookup x = some c)
  | [], cs, _ => ⟨cs, rfl, fun _ _ h => .inl h, fun y hy => (nomatch hy), fun _ h => h⟩
  | (n, k) :: r, cs, h => by
    by_cases hk : k = .free
    · subst hk
      obtain ⟨c, hc⟩ := h (n, .free) (.head _) rfl
      obtain ⟨cl, e1, e2, e3, e4⟩ := clos_go env r ((n, c) :: cs) fun y hy => h y (.tail _ hy)
      refine ⟨cl, ?_, fun x d hd => ?_, fun y hy hf => ?_, fun x hx => e4 x ?_⟩
      · rw [List.forIn_cons, ← e1]
        have : cellOf env n = pure c := by unfold cellOf; rw [hc]
        simp only [this]
        rfl
      · rcases e2 x d hd with h' | h'
        · simp only [List.lookup_cons] at h'
          split at h'
          · rename_i hx
            cases h'
            rw [eq_of_beq hx]
            exact .inr hc
          · exact .inl h'
        · exact .inr h'
      · rcases List.mem_cons.mp hy with rfl | hy
        · exact e4 n ⟨c, by simp [List.lookup_cons]⟩
        · exact e3 y hy hf
      · obtain ⟨d, hd⟩ := hx
        simp only [List.lookup_cons]
        split
        · exact ⟨c, rfl⟩
        · exact ⟨d, hd⟩
    · obtain ⟨cl, e1, e2, e3, e4⟩ := clos_go env r cs fun y hy => h y (.tail _ hy)
      refine ⟨cl, ?_, e2, fun y hy hf => ?_, e4⟩
      · rw [List.forIn_cons, ← e1]
        have : (k == NameKind.free) = false := by simpa using hk
        simp only [this]
        rfl
      · rcases List.mem_cons.mp hy with rfl | hy
        · exact absurd hf hk
        · exact e3 y hy hf
theorem clos (env : Env) (sc : Scope) (h : ∀ y ∈ sc.names, y.2 = .free → ∃ c, env.cells.lookup y.1 = some c) :
    ∃ cl, closureFor sc env = pure cl ∧ (∀ x c, cl.lookup x = some c → env.cells.lookup x = some c) ∧ (∀ y ∈ sc.names, y.2 = .free → ∃ c, cl.lookup y.1 = some c) := by
  obtain ⟨cl, e1, e2, e3, _⟩ := clos_go env sc.names [] h
  refine ⟨cl, ?_, fun x c hc => (e2 x c hc).elim (fun h => by cases h) id, e3⟩
  simp only [closureFor]
  exact congrArg (fun t : Sem (List (Str × Addr)) => t >>= fun s => pure s) e1

theorem lookup_relabel {env : Env} (hk : env.scope.kind = .function) : ∀ {names : List (Str × NameKind)} {x : Str} {k : NameKind}, names.lookup x = some k →
    (names.map fun (n, k) => if (k == NameKind.free && env.scope.kind == .function && env.kindOf n == some .cell) then (n, NameKind.cell) else (n, k)).lookup x =
      some (if (k == NameKind.free && env.kindOf x == some .cell) = true then .cell else k)
  | [], _, _, h => by simp at h
  | (n, k') :: r, x, k, h => by
    have ih := @lookup_relabel env hk r x k
    show List.lookup x ((if (k' == NameKind.free && env.scope.kind == .function && env.kindOf n == some .cell) = true then (n, NameKind.cell) else (n, k')) :: _) = _
    cases hx : x == n with
    | true =>
      simp only [List.lookup_cons, hx] at h
      cases h
      have := eq_of_beq hx
      subst this
      have e : (k' == NameKind.free && env.scope.kind == .function && env.kindOf x == some .cell) = (k' == NameKind.free && env.kindOf x == some .cell) := by rw [hk]; simp
      rw [e]
      by_cases hc : (k' == NameKind.free && env.kindOf x == some .cell) = true
      · rw [if_pos hc, if_pos hc]; simp [List.lookup_cons]
      · rw [if_neg hc, if_neg hc]; simp [List.lookup_cons]
    | false =>
      simp only [List.lookup_cons, hx] at h
      by_cases hc : (k' == NameKind.free && env.scope.kind == .function && env.kindOf n == some .cell) = true
      · rw [if_pos hc]; simp only [List.lookup_cons, hx]; exact ih h
      · rw [if_neg hc]; simp only [List.lookup_cons, hx]; exact ih h

noncomputable def childCx (C : Cx) (h : Heap) (xs : List Str) (caps gl : List Nat) (sc : Scope) (cl : List (Str × Addr)) (L D : Addr) : Cx :=
  { C with env := compEnvC sc cl L C.env, base := h, K := childKeys C.K xs caps gl, gval := childG C.gval gl, fns := noFns, fz := [D], ownCells := false }

structure ScopeOk (K : Keys) (xs : List Str) (caps gl : List Nat) (sc : Scope) : Prop where
  kind : sc.kind = .function
  nocell : ∀ y ∈ sc.names, y.2 ≠ .cell
  names : ∀ y ∈ sc.names, y.2 = .local → sc.names.lookup y.1 = some .local
  xl : ∀ x ∈ xs, sc.names.lookup x = some .local ∧ (x == ("__debug__" : Str)) = false
  cp : ∀ i ∈ caps, (i < K.names.length ∧ K.names.getD i "" ∈ K.cells) ∧ sc.names.lookup (K.names.getD i "") = some .free ∧ ((K.names.getD i "") == ("__debug__" : Str)) = false
  gb : ∀ i ∈ gl, i < K.globs.length ∧ sc.names.lookup (K.globs.getD i "") = some .globalImplicit
  nodup : (childKeys K xs caps gl).names.Nodup
  free : ∀ y ∈ sc.names, y.2 = .free → ∃ i ∈ caps, K.names.getD i "" = y.1
theorem scope_ok {K : Keys} {xs : List Str} {caps gl : List Nat} {sc : Scope} (h : scopeOk K xs caps gl sc = true) : ScopeOk K xs caps gl sc := by
  simp only [scopeOk, Bool.and_eq_true, List.all_eq_true, beq_iff_eq, bne_iff_ne, ne_eq, Bool.or_eq_true, decide_eq_true_eq, List.contains_iff_mem] at h
  obtain ⟨⟨h1, h2, h3⟩, h4, h5, h6, h7, h8⟩ := h
  refine ⟨h1, fun y hy => by simpa using h2 y hy, fun y hy e => ?_, fun x hx => ?_, fun i hi => ?_, fun i hi => h6 i hi, h7, fun y hy e => ?_⟩
  · rcases h3 y hy with h | h
    · exact absurd e (by simpa using h)
    · exact h
  · have := h4 x hx
    exact ⟨this.1, by simpa using this.2⟩
  · have := h5 i hi
    exact ⟨this.1, this.2.1, by simpa using this.2.2⟩
  · rcases h8 y hy with h | h
    · exact absurd e (by simpa using h)
    · obtain ⟨i, hi, e⟩ := List.mem_map.mp h
      exact ⟨i, hi, e⟩

theorem getD_get {l : List Str} {i : Nat} (h : i < l.length) : l[i]? = some (l.getD i "") := by simp [h]
theorem nodup_append_not {α : Type} {a b : List α} {x : α} (h : (a ++ b).Nodup) (hx : x ∈ a) : x ∉ b := fun hb => by
  have := List.nodup_append.mp h
  exact this.2.2 x hx x hb rfl

section
variable {C : Cx} {σ : St} {h : Heap} {m : Str → Option Value} {ad : List Addr} {news : Led} {xs : List Str} {caps gl : List Nat} {sc : Scope} {cl : List (Str × Addr)} {L D : Addr}

theorem child_ok (ok : CxOK C) (R : Rel C σ h m ad news) (S : ScopeOk C.K xs caps gl sc) (hc1 : ∀ x c, cl.lookup x = some c → C.env.cells.lookup x = some c) (hc2 : ∀ y ∈ sc.names, y.2 = .free → ∃ c, cl.lookup y.1 = some c) :
    CxOK (childCx C h xs caps gl sc cl L D) where
  hh := ok.hh
  htop := fun b o e => R.F.keep b o (ok.htop b o e)
  nb := noneKeeps ok.nb R.F.keep
  units := ok.units
  kind := S.kind
  nodup := S.nodup
  locs := fun x hx => by
    have hx : x ∈ xs ++ caps.map (fun i => C.K.names.getD i "") := hx
    rcases List.mem_append.mp hx with h1 | h1
    · have := S.xl x h1
      refine ⟨this.2, fun _ => ?_, fun h2 => absurd h2 (nodup_append_not S.nodup h1)⟩
      have e := lookup_relabel (env := C.env) ok.kind this.1
      exact e.trans (by simp)
    · obtain ⟨i, hi, rfl⟩ := List.mem_map.mp h1
      have := S.cp i hi
      refine ⟨this.2.2, fun h2 => absurd h1 h2, fun _ => ?_⟩
      have e := lookup_relabel (env := C.env) ok.kind this.2.1
      have hk := (ok.locs (C.K.names.getD i "") (List.mem_of_getElem? (getD_get this.1.1))).2.2 this.1.2
      refine e.trans ?_
      rw [hk]
      rfl
  cellinj := fun x hx y hy c h1 h2 => by
    have key : ∀ x ∈ (childKeys C.K xs caps gl).cells, x ∈ C.K.cells := fun x hx => by
      obtain ⟨i, hi, rfl⟩ := List.mem_map.mp hx
      exact (S.cp i hi).1.2
    exact ok.cellinj x (key x hx) y (key y hy) c (hc1 x c h1) (hc1 y c h2)
  cellat := fun x hx => by
    obtain ⟨i, hi, rfl⟩ := List.mem_map.mp hx
    have := (S.cp i hi).2.1
    exact hc2 _ (mem_of_lookup this) rfl
  g := ok.g.keeps R.F.keep
  b := ok.b.keeps R.F.keep
  eg := ok.eg
  eb := ok.eb
  globs := fun j x v hj hv => by
    have hj : (gl.map (fun i => C.K.globs.getD i ""))[j]? = some x := hj
    have hv : (gl[j]?).bind C.gval = some v := hv
    rw [List.getElem?_map] at hj
    cases hg : gl[j]? with
    | none => rw [hg] at hv; cases hv
    | some i =>
      rw [hg] at hj hv
      simp only [Option.map_some, Option.some.injEq] at hj
      have hS := S.gb i (List.mem_of_getElem? hg)
      have := ok.globs i x v (by rw [getD_get hS.1, hj]) hv
      refine ⟨⟨this.1.1, fun _ => ?_⟩, this.2⟩
      rw [← hj]
      have e := lookup_relabel (env := C.env) ok.kind hS.2
      exact e.trans (by simp)
  call := fun fz k args cargs σ Q s m ad news _ _ _ h => h.elim

noncomputable def capLoc (ℓ : Nat → Option AV) (k : Nat) (caps : List Nat) : Nat → Option AV := fun i => if i < k then none else (caps[i - k]?).bind ℓ

theorem child_rel (ok : CxOK C) (R : Rel C σ h m ad news) (S : ScopeOk C.K xs caps gl sc) (hc1 : ∀ x c, cl.lookup x = some c → C.env.cells.lookup x = some c) (hc2 : ∀ y ∈ sc.names, y.2 = .free → ∃ c, cl.lookup y.1 = some c)
    {σ' : St} {m' m₂ : Str → Option Value} {ad' : List Addr} {news' news₂ : Led} (pre : ∀ (i : Nat) (a : Addr), ad[i]? = some a → ad'[i]? = some a)
    (M : RelM (childCx C h xs caps gl sc cl L D) σ' m' ad' news') (k : ∀ a o, (a, o) ∈ news' → good o → (a, o) ∈ news₂) :
    RelM (childCx C h xs caps gl sc cl L D) ⟨capLoc σ.loc xs.length caps, σ'.objs, []⟩ m₂ ad' news₂ := by
  have hl : ∀ o its, IsL o its → good o := fun o its h => .inr (.inl h.1)
  have hk : ∀ a o, Held h news' a o → good o → Held h news₂ a o := fun a o x g => x.elim (fun y => .inl (k a o y g)) .inr
  have lt : LeT ad' news' ad' news₂ := ⟨fun _ _ h => h, fun a o hm hc => k a o hm (hc.elim .inl fun h => .inr (.inr (.inl h)))⟩
  refine ⟨fun n v hv => ?_, M.len, fun i l hl' => ?_, fun i hi => (nomatch hi), M.inj, fun a ha => ?_, fun hc => (nomatch hc)⟩
  · simp only [capLoc] at hv
    split at hv
    · cases hv
    · rename_i hn
      cases hi : caps[n - xs.length]? with
      | none => rw [hi] at hv; cases hv
      | some i =>
        rw [hi] at hv
        have hv : σ.loc i = some v := hv
        obtain ⟨x, cv, e1, e2, e3⟩ := R.M.loc i v hv
        have hS := S.cp i (List.mem_of_getElem? hi)
        have hx : x = C.K.names.getD i "" := by
          have := getD_get hS.1.1
          rw [e1] at this
          exact Option.some.inj this
        have hmem : x ∈ caps.map (fun i => C.K.names.getD i "") := List.mem_map.mpr ⟨i, List.mem_of_getElem? hi, hx.symm⟩
        refine ⟨x, cv, ?_, ?_, (down_RV R (led := []) e3).move pre fun a o _ hd => hd.elim (fun x => absurd x (List.not_mem_nil)) .inr⟩
        · show (xs ++ caps.map (fun i => C.K.names.getD i ""))[n]? = some x
          rw [List.getElem?_append_right (by omega), List.getElem?_map, hi, hx]
          rfl
        · unfold VarAt at e2 ⊢
          have hxc : x ∈ C.K.cells := hx ▸ hS.1.2
          rw [if_pos hxc] at e2
          rw [if_pos (show x ∈ (childCx C h xs caps gl sc cl L D).K.cells from hmem)]
          obtain ⟨c, o, f1, f2, f3⟩ := e2
          obtain ⟨c', hc'⟩ := hc2 (x, .free) (by rw [hx]; exact mem_of_lookup hS.2.1) rfl
          have := hc1 x c' hc'
          rw [f1] at this
          cases this
          exact ⟨c, o, hc', .inr (f2.get R), f3⟩
  · obtain ⟨a, its, o, e1, e2, e3⟩ := M.obj i l hl'
    exact ⟨a, its, o, e1, ⟨hk _ _ e2.1 (hl _ _ e2.2), e2.2⟩, e3.leT lt⟩
  · obtain ⟨o, e1, its, e2⟩ := M.fzin a ha
    exact ⟨o, hk _ _ e1 (hl _ _ e2), its, e2⟩
end
end Mine
namespace Mine
open PySem PySem.W PySem.Calls PyProof.Rows PyProof.V PySem.Spec

theorem loop_rule {prog : Program} {w : World} {A : Around} {R : Result → Shared → Prop} {s : Shared} {elt target iter : Expr} {ifs : List Expr} {scope : Scope} {pos : Pos} {it acc : Value} {env : Env} (I : Nat → Shared → Prop)
    (turn : ∀ n s, I n s → wpAny (model prog w) A (pyNext it) (fun r s₁ => match r with
      | none => R (.ok .next) s₁
      | some v => wpAny (model prog w) A (letOwnedTupleGo target it v) (fun _ s₁' => wpAny (model prog w) A (assign target env v) (fun _ s₂ =>
          wpAny (model prog w) A (forIn ifs true fun c r => if r = true then do let ok ← isTrue c env (eval c env); pure (ForInStep.yield ok) else pure (ForInStep.yield r)) (fun ok s₃ =>
            if ok = true then wpAny (model prog w) A (eval elt env) (fun x s₄ =>
              wpAny (model prog w) A (call (.builtin "list.append") [acc, x]) (fun _ s₅ => ∃ m, m < n ∧ I m s₅) NoE s₄) NoE s₃
            else ∃ m, m < n ∧ I m s₃) NoE s₂) NoE s₁') NoE s₁) NoE s)
    (n : Nat) (h : I n s) : codeAny (model prog w) A (.compLoop (.ListComp elt [⟨target, iter, ifs, 0⟩] scope pos) 0 it acc env) R s := by
  have no : ∀ {E : Value → Shared → Prop} (a : Value) (b : Shared), NoE a b → E a b := fun _ _ x => x.elim
  refine codeAny_loop rfl I (fun n s hI => ?_) n h
  show wpAny _ A ((compTurn (.ListComp elt [⟨target, iter, ifs, 0⟩] scope pos) 0 it acc env).onRaise (fun x => do noteFrame x env; theTreesLotGoes x)) _ _ s
  refine wpAny_noted ?_
  rw [compTurn_list]
  refine wpAny_bind (wpAny_standAt (wpAny_bind (wpAny_mono (turn n s hI) (fun r s₁ h₁ => ?_) no)))
  cases r with
  | none => exact wpAny_pure h₁
  | some v =>
    refine wpAny_bind (wpAny_mono h₁ (fun _ s₁' h₁' => ?_) no)
    refine wpAny_bind (wpAny_mono h₁' (fun _ s₂ h₂ => wpAny_bind (wpAny_mono h₂ (fun ok s₃ h₃ => ?_) no)) no)
    cases ok with
    | false => exact wpAny_pure ⟨rfl, h₃⟩
    | true =>
      exact wpAny_bind (wpAny_bind (wpAny_mono h₃ (fun x s₄ h₄ => wpAny_bind (wpAny_mono h₄ (fun _ s₅ h₅ => wpAny_pure (wpAny_pure ⟨rfl, h₅⟩)) no)) no))

noncomputable def SoundTs (C : Cx) (p : PEs) (es : List Expr) : Prop := ∀ (σ : St) (Q : Bool → St → Prop) (s : Shared) (m : Str → Option Value) (ad : List Addr) (news : Led),
  0 < s.toks → wpTs C.gval C.fns p σ Q → Rel C σ s.heap m ad news → Wp C (forIn es true fun c r => if r = true then do let ok ← isTrue c C.env (eval c C.env); pure (ForInStep.yield ok) else pure (ForInStep.yield r)) (PostB C Q s ad news) s

theorem sTsNil {C : Cx} : SoundTs C .nil [] := by
  intro σ Q s m ad news T q R
  exact wpAny_tests_nil ⟨σ, m, ad, news, q, R, Le.refl, Rest.refl⟩
theorem sTsOne {C : Cx} {p : PE} {e : Expr} (h : SoundT C p e) : SoundTs C (.cons p .nil) [e] := by
  intro σ Q s m ad news T q R
  refine wpAny_tests_one (wpAny_mono (h σ _ s m ad news T q (fun v σ' h => by obtain ⟨b, hb, _⟩ := truthW_iff.mp h; exact ⟨b, hb⟩) R) (fun b s₁ hp => ?_) fun _ _ x => x)
  obtain ⟨v, σ', m', ad', news', t, q₁, R', l, r⟩ := hp
  obtain ⟨b', hb, q₁⟩ := truthW_iff.mp q₁
  rw [t] at hb
  cases hb
  cases b
  · exact ⟨σ', m', ad', news', q₁.2 rfl, R', l, r⟩
  · exact ⟨σ', m', ad', news', q₁.1 rfl, R', l, r⟩

theorem setAll_eq : ∀ (ns : List Nat) (vs : List AV) (σ : St), (setAll σ ns vs).objs = σ.objs ∧ (setAll σ ns vs).own = σ.own
  | [], _, _ => ⟨rfl, rfl⟩
  | _ :: _, [], _ => ⟨rfl, rfl⟩
  | n :: ns, v :: vs, σ => setAll_eq ns vs (σ.set n v)
theorem setAll_loc : ∀ (k a : Nat) (vs : List AV) (σ : St), vs.length = k → ∀ i, (setAll σ (List.range' a k) vs).loc i = if a ≤ i ∧ i < a + k then vs[i - a]? else σ.loc i
  | 0, a, [], σ, _, i => by simp [setAll, List.range']; intro h1 h2; (first | lia | omega)
  | k + 1, a, v :: vs, σ, hl, i => by
    rw [List.range'_succ]
    show (setAll (σ.set a v) (List.range' (a + 1) k) vs).loc i = _
    rw [setAll_loc k (a + 1) vs (σ.set a v) (by simpa using hl) i]
    by_cases h1 : i = a
    · subst h1
      rw [if_neg (by (first | lia | omega)), if_pos (by (first | lia | omega))]
      simp [St.set, upd]
    · by_cases h2 : a + 1 ≤ i ∧ i < a + 1 + k
      · rw [if_pos h2, if_pos (by (first | lia | omega))]
        have : i - a = (i - (a + 1)) + 1 := by (first | lia | omega)
        rw [this, List.getElem?_cons_succ]
      · rw [if_neg h2, if_neg (by (first | lia | omega))]
        simp [St.set, upd, h1]
  | 0, _, _ :: _, _, h, _ => by cases h
  | _ + 1, _, [], _, h, _ => by cases h
theorem setAll_child (ℓ : Nat → Option AV) (caps : List Nat) (objs : List (List AV)) (k : Nat) (vs : List AV) (h : vs.length = k) :
    setAll ⟨capLoc ℓ k caps, objs, []⟩ (List.range' 0 k) vs = ⟨childLoc ℓ vs caps, objs, []⟩ := by
  have e := setAll_eq (List.range' 0 k) vs ⟨capLoc ℓ k caps, objs, []⟩
  have e2 := setAll_loc k 0 vs ⟨capLoc ℓ k caps, objs, []⟩ h
  generalize setAll ⟨capLoc ℓ k caps, objs, []⟩ (List.range' 0 k) vs = σ at *
  obtain ⟨a, b, c⟩ := σ
  simp only at e e2
  obtain ⟨rfl, rfl⟩ := e
  congr 1
  funext i
  rw [e2 i]
  subst h
  simp only [childLoc, capLoc]
  by_cases hi : i < vs.length
  · rw [if_pos (by omega), if_pos hi]; rfl
  · rw [if_neg (by omega), if_neg hi, if_neg hi]

noncomputable def tgtOf : Option Nat → Tgt
  | none => .name 0
  | some k => .tup (List.range' 0 k)
theorem tgt_match {o : Option Nat} {tgt : Expr} {xs : List Str} (hx : tgtNames o tgt = some xs) (K : Keys) (hk : ∀ (i : Nat) (x : Str), xs[i]? = some x → K.names[i]? = some x) : mT K (tgtOf o) tgt = true := by
  cases o with
  | none =>
    cases tgt <;> first | (cases hx; done) | skip
    cases hx
    have := hk 0 _ rfl
    simpa [mT, tgtOf] using this
  | some k =>
    cases hx
theorem tgt_ids {o : Option Nat} {tgt : Expr} {xs : List Str} (hx : tgtNames o tgt = some xs) : ∀ n ∈ (tgtOf o).ids, n < xs.length := by
  cases o with
  | none =>
    cases tgt <;> first | (cases hx; done) | skip
    cases hx
    intro n hn
    rw [List.mem_singleton.mp hn]
    exact Nat.one_pos
  | some k =>
    cases hx
theorem bind_child {o : Option Nat} {tgt : Expr} {xs : List Str} (hx : tgtNames o tgt = some xs) {u : AV} {objs : List (List AV)} {ℓ : Nat → Option AV} {caps : List Nat} {K : St → Prop}
    (q : partsW o u objs fun us => K ⟨childLoc ℓ us caps, objs, []⟩) : bindW (tgtOf o) u ⟨capLoc ℓ xs.length caps, objs, []⟩ K := by
  cases o with
  | none =>
    cases tgt <;> first | (cases hx; done) | skip
    cases hx
    have e := setAll_child ℓ caps objs 1 [u] rfl
    show K (setAll _ (List.range' 0 1) [u])
    exact e ▸ q
  | some k =>
    cases hx
end Mine
namespace Mine
open PySem PySem.W PySem.Calls PyProof.Rows PyProof.V PySem.Spec

noncomputable def compTurnW (g : Nat → Option AV) (ℓ : Nat → Option AV) (elt : PE) (o : Option Nat) (caps gl : List Nat) (ifs : PEs) (u : AV) (objs : List (List AV)) (K : Option AV → List (List AV) → Prop) : Prop :=
  partsW o u objs fun us => wpTs (childG g gl) noFns ifs ⟨childLoc ℓ us caps, objs, []⟩ fun ok σ₂ =>
        (ok = true → wpE (childG g gl) noFns elt σ₂ fun x σ₃ => K (some x) σ₃.objs) ∧ (ok = false → K none σ₂.objs)

section
variable {C : Cx} {σ : St} {s : Shared} {m : Str → Option Value} {ad : List Addr} {news : Led} {xs : List Str} {caps gl : List Nat} {sc : Scope} {cl : List (Str × Addr)}
  {elt : PE} {o : Option Nat} {ifs : PEs} {elt' tgt iter' : Expr} {ifs' : List Expr} {pos : Pos}

structure CompDone (C : Cx) (Cc : Cx) (s : Shared) (ad : List Addr) (n : Nat) (D L : Addr) (objs : List (List AV)) (h : Heap) (m' : Str → Option Value) (ad' : List Addr) (news' : Led) : Prop where
  R : Rel Cc ⟨fun _ => none, objs, []⟩ h m' ad' news'
  pre : ∀ (i : Nat) (a : Addr), ad[i]? = some a → ad'[i]? = some a
  at_ : ad'[n]? = some D
  held : ∃ o its, (D, o) ∈ news' ∧ IsLx o its

noncomputable def LoopInv (Cc : Cx) (ℓ : Nat → Option AV) (I : Addr) (St : Nat → Heap → Prop) (ad : List Addr) (n : Nat) (turn : AV → List (List AV) → (Option AV → List (List AV) → Prop) → Prop) (items : List AV) (Qf : List (List AV) → Prop) (s : Shared) (k : Nat) (s' : Shared) : Prop :=
  ∃ i h tk m' ad' news' objs, (k = items.length - i ∧ i ≤ items.length) ∧ (s' = { s with heap := h, toks := tk } ∧ 0 < tk) ∧ Rel Cc ⟨ℓ, objs, []⟩ h m' ad' news' ∧
        (∀ p ∈ news', p.1 ≠ I) ∧ St i h ∧ (∀ (i : Nat) (a : Addr), ad[i]? = some a → ad'[i]? = some a) ∧ ad'[n]? = some (I + 1) ∧ (∃ o' its, (I + 1, o') ∈ news' ∧ IsLx o' its ∧ its.length ≤ i) ∧
        compL turn n (items.drop i) objs Qf

theorem comp_back (ok : CxOK C) (R : Rel C σ s.heap m ad news) (S : ScopeOk C.K xs caps gl sc) (hc1 : ∀ x c, cl.lookup x = some c → C.env.cells.lookup x = some c) (hc2 : ∀ y ∈ sc.names, y.2 = .free → ∃ c, cl.lookup y.1 = some c)
    {I : Addr} {items : List AV} {fp fs : List Addr} {P : Nat → Value → Prop} {St : Nat → Heap → Prop} {Qf : List (List AV) → Prop} {turn : AV → List (List AV) → (Option AV → List (List AV) → Prop) → Prop} {n i : Nat} {h' : Heap} {oI : Obj} {ad' : List Addr}
    (it : Iter C items ad news I fp fs P St) (hlt : i < items.length) (hst' : St (i + 1) h') (eI : h'.get? I = some oI) (hngI : ¬ good oI) (keep : ∀ b o', s.heap.get? b = some o' → h'.get? b = some o')
    (pre : ∀ (i : Nat) (a : Addr), ad[i]? = some a → ad'[i]? = some a) (hat : ad'[n]? = some (I + 1))
    {σx : Mine.St} {hx' : Heap} {tkx : Nat} {mx : Str → Option Value} {adx : List Addr} {newsx : Led} (Rx : Rel (childCx C s.heap xs caps gl sc cl (I + 2) (I + 1)) σx hx' mx adx newsx) (hIx : (I, oI) ∈ newsx) (prex : ∀ (i : Nat) (a : Addr), ad'[i]? = some a → adx[i]? = some a)
    (hD : ∃ o' its, (I + 1, o') ∈ newsx ∧ IsLx o' its ∧ its.length ≤ i + 1) (qx : compL turn n (items.drop (i + 1)) σx.objs Qf) (T : 0 < tkx) :
    ∃ m, m < items.length - i ∧ LoopInv (childCx C s.heap xs caps gl sc cl (I + 2) (I + 1)) (capLoc σ.loc xs.length caps) I St ad n turn items Qf s m { s with heap := hx', toks := tkx } := by
  obtain ⟨oD', its', hmD', hLD', hlD'⟩ := hD
  have hsub := sub_filter Rx.N hIx hngI
  refine ⟨items.length - (i + 1), Nat.sub_lt_sub_left hlt (Nat.lt_succ_self i), i + 1, hx', tkx, mx, adx, newsx.filter fun p => p.1 != I, σx.objs, ⟨rfl, hlt⟩, ⟨rfl, T⟩, ⟨Rx.F, fun p hp => Rx.N p (List.mem_filter.mp hp).1, ?_⟩, ?_, ?_, ?_, ?_, ⟨oD', its', hsub _ _ hmD' (.inr (.inl hLD'.toL.1)), hLD', hlD'⟩, qx⟩
  · exact child_rel ok R S hc1 hc2 (fun i a h => prex i a (pre i a h)) Rx.M hsub
  · intro p hp
    simpa using (List.mem_filter.mp hp).2
  · refine it.W.frame _ _ _ hst' fun b hb o' e => ?_
    rcases it.fpIn b hb with rfl | ⟨o₂, hh, _⟩
    · rw [eI] at e
      cases e
      exact (Rx.N _ hIx).1
    · have e1 := hh.get R
      have e2 : h'.get? b = some o₂ := keep _ _ e1
      rw [e] at e2
      cases e2
      exact Rx.F.keep _ _ e1
  · exact fun i a h => prex i a (pre i a h)
  · exact prex _ _ hat

theorem comp_M0 (R : Rel C σ s.heap m ad news) {I : Addr} (hI : s.heap.objs.size = I) : RelM (childCx C s.heap xs caps gl sc cl (I + 2) (I + 1)) ⟨fun _ => none, σ.objs ++ [[]], []⟩ (fun _ => none) (ad ++ [I + 1]) [(I + 1, lstObj [] 0)] := by
  have hlen : ad.length = σ.objs.length := R.M.len
  have hadlt : ∀ (i : Nat) (a : Addr), ad[i]? = some a → a < I := fun i a h => hI ▸ R.lt h
  refine ⟨fun n v h => (by cases h), (by simp [hlen]), fun i l hl => ?_, fun i hi => (nomatch hi), fun i j a h1 h2 => ?_, fun a ha => ?_, fun hc => (nomatch hc)⟩
  · by_cases hi : i < σ.objs.length
    · simp only [List.getElem?_append_left hi] at hl
      obtain ⟨a, its, o', e1, e2, e3⟩ := R.M.obj i l hl
      exact ⟨a, its, o', snoc_pre i a e1, ⟨.inr (e2.1.get R), e2.2⟩, (down_RVs R (led := [(I + 1, lstObj [] 0)]) e3).le (fz := []) (.all snoc_pre fun _ h => h)⟩
    · have hi2 : i = σ.objs.length := by
        have := (List.getElem?_eq_some_iff.mp hl).1
        simp at this
        (first | lia | omega)
      subst hi2
      simp only [List.getElem?_concat_length, Option.some.injEq] at hl
      subst hl
      exact ⟨I + 1, [], _, by rw [← hlen, List.getElem?_concat_length], ⟨.inl (.head _), rfl, 0, rfl⟩, .nil⟩
  · have key : ∀ i : Nat, (ad ++ [I + 1])[i]? = some a → (i < ad.length ∧ ad[i]? = some a) ∨ (i = ad.length ∧ a = I + 1) := by
      intro i hi
      by_cases h : i < ad.length
      · rw [List.getElem?_append_left h] at hi
        exact .inl ⟨h, hi⟩
      · have hi2 : i = ad.length := by
          have := (List.getElem?_eq_some_iff.mp hi).1
          simp only [List.length_append, List.length_cons, List.length_nil] at this
          (first | lia | omega)
        subst hi2
        simp only [List.getElem?_concat_length, Option.some.injEq] at hi
        exact .inr ⟨rfl, hi.symm⟩
    rcases key i h1 with ⟨_, g1⟩ | ⟨g1, g1'⟩ <;> rcases key j h2 with ⟨_, g2⟩ | ⟨g2, g2'⟩
    · exact R.M.inj i j a g1 g2
    · have h := hadlt _ _ g1; rw [g2'] at h; exact absurd h (Nat.not_lt.mpr (Nat.le_succ I))
    · have h := hadlt _ _ g2; rw [g1'] at h; exact absurd h (Nat.not_lt.mpr (Nat.le_succ I))
    · (first | lia | omega)
  · have : a = I + 1 := List.mem_singleton.mp ha
    subst this
    exact ⟨_, .inl (.head _), [], rfl, 0, rfl⟩

theorem comp_turn (okc : CxOK C) (hfn : C.fns = noFns) (h2 : SoundE C elt elt') (h3 : SoundTs C ifs ifs') {t : Tgt} {u : AV} {v : Value} {h' : Heap} {tk' n i : Nat} {D I : Addr} {oI oD : Obj} {its : List Value} {Nx : List (List AV) → Prop} {Post : Shared → Prop}
    (hm : mT C.K t tgt = true) (hs : mayStore C t.ids) (q : bindW t u σ fun σ' => wpTs C.gval noFns ifs σ' fun ok σ₂ => (ok = true → wpE C.gval noFns elt σ₂ fun x σ₃ => Nx (appendAt σ₃.objs n x)) ∧ (ok = false → Nx σ₂.objs))
    (T : 0 < tk') (R1 : Rel C σ h' m ad news) (rv : RV C.base C.fa ad news u v) (hI : (I, oI) ∈ news) (hngI : ¬ good oI) (hD : (D, oD) ∈ news) (hLD : IsLx oD its) (hlD : its.length ≤ i) (hi : i < sizeLine) (hat : ad[n]? = some D) (hfz : D ∈ C.fz) (hDI : I ≠ D)
    (back : ∀ (σx : Mine.St) (hx' : Heap) (tkx : Nat) (mx : Str → Option Value) (adx : List Addr) (newsx : Led), Rel C σx hx' mx adx newsx → (I, oI) ∈ newsx → (∀ (i : Nat) (a : Addr), ad[i]? = some a → adx[i]? = some a) →
      (∃ o' its, (D, o') ∈ newsx ∧ IsLx o' its ∧ its.length ≤ i + 1) → Nx σx.objs → 0 < tkx → Post { s with heap := hx', toks := tkx }) :
    wpAny (model C.prog C.w) C.A (assign tgt C.env v) (fun _ s₂ =>
          wpAny (model C.prog C.w) C.A (forIn ifs' true fun c r => if r = true then do let ok ← isTrue c C.env (eval c C.env); pure (ForInStep.yield ok) else pure (ForInStep.yield r)) (fun ok s₃ =>
            if ok = true then wpAny (model C.prog C.w) C.A (eval elt' C.env) (fun x s₄ =>
              wpAny (model C.prog C.w) C.A (call (.builtin "list.append") [.ref D, x]) (fun _ s₅ => Post s₅) NoE s₄) NoE s₃
            else Post s₃) NoE s₂) NoE { s with heap := h', toks := tk' } := by
  have no : ∀ {E : Value → Shared → Prop} (a : Value) (b : Shared), NoE a b → E a b := fun _ _ x => x.elim
  rw [← hfn] at q
  refine withT (C := C) T (bind_sound (s := { s with heap := h', toks := tk' }) okc hm hs q R1 rv ?_)
  rintro σ₁ h₁ tk₁ m₁ news₁ q₁ R₁ l₁ T₁
  refine wpAny_mono (wpAny_toks (h3 σ₁ _ { s with heap := h₁, toks := tk₁ } m₁ ad news₁ T₁ q₁ R₁)) (fun okb s₂ hp => ?_) (fun a b x => no a b x.2)
  obtain ⟨ht₂, σ₂, m₂, ad₂, news₂, q₂, R₂, l₂, ⟨h₂, tk₂, rfl⟩⟩ := hp
  have T₂ : 0 < tk₂ := Nat.lt_of_lt_of_le T₁ ht₂
  have hI₂ : (I, oI) ∈ news₂ := l₂.keep _ _ (l₁.keep _ _ hI (.inr (bad_keep hngI))) (.inr (bad_keep hngI))
  have hD₂ : (D, oD) ∈ news₂ := l₂.keep _ _ (l₁.keep _ _ hD (.inl hfz)) (.inl hfz)
  cases okb with
  | false =>
    simp only [Bool.false_eq_true, if_false]
    exact back σ₂ h₂ tk₂ m₂ ad₂ news₂ R₂ hI₂ l₂.pre ⟨oD, its, hD₂, hLD, by omega⟩ (q₂.2 rfl) T₂
  | true =>
    simp only [if_true]
    refine wpAny_mono (wpAny_toks (h2 σ₂ _ { s with heap := h₂, toks := tk₂ } m₂ ad₂ news₂ T₂ (q₂.1 rfl) R₂)) (fun cx s₃ hp => ?_) (fun a b x => no a b x.2)
    obtain ⟨ht₃, x, σ₃, m₃, ad₃, news₃, q₃, rvx, R₃, l₃, ⟨h₃, tk₃, rfl⟩⟩ := hp
    have hI₃ : (I, oI) ∈ news₃ := l₃.keep _ _ hI₂ (.inr (bad_keep hngI))
    have hD₃ : (D, oD) ∈ news₃ := l₃.keep _ _ hD₂ (.inl hfz)
    have hat₃ : ad₃[n]? = some D := l₃.pre _ _ (l₂.pre _ _ hat)
    have hgD₃ := (R₃.N _ hD₃).1
    have hn₃ : n < σ₃.objs.length := by
      have := (List.getElem?_eq_some_iff.mp hat₃).1
      rw [R₃.M.len] at this
      exact this
    have e₃ : σ₃.objs[n]? = some (σ₃.objs.getD n []) := by
      simp [hn₃]
    obtain ⟨a₃, its₃, o₃, f1, f2, f3⟩ := R₃.M.obj _ _ e₃
    rw [hat₃] at f1
    cases f1
    have f4 := f2.1.get R₃
    rw [hgD₃] at f4
    cases f4
    have hits : its₃ = its := by
      obtain ⟨_, n1, d1⟩ := f2.2
      obtain ⟨_, n2, d2⟩ := hLD.toL
      rw [d1] at d2
      injection d2 with d3
      simpa using d3
    subst hits
    obtain ⟨nD, hnD⟩ := hLD
    refine append_at (D := D) (its := its₃.toArray) (n := nD) (by rw [hgD₃, hnD]) (fun h₄ hs₄ g1 => ?_) (by simp only [List.size_toArray]; omega)
    have hL₄ : IsLx (lstObj (its₃ ++ [cx]) (nD + 1)) (its₃ ++ [cx]) := ⟨_, rfl⟩
    rw [show (its₃.toArray.push cx) = (its₃ ++ [cx]).toArray by simp] at g1
    have R₄ := R₃.update hat₃ ⟨_, _, hD₃, f2.2⟩ hL₄ hs₄ g1 (f3.append (.cons _ _ _ _ rvx .nil))
    refine back _ h₄ tk₃ m₃ ad₃ _ R₄ (.tail _ (List.mem_filter.mpr ⟨hI₃, by simpa using hDI⟩)) (fun i a h => l₃.pre i a (l₂.pre i a h)) ⟨_, _, .head _, hL₄, by simp; omega⟩ q₃ (Nat.lt_of_lt_of_le T₂ ht₃)

theorem comp_block (ok : CxOK C) (S : ScopeOk C.K xs caps gl sc) (hx : tgtNames o tgt = some xs) (hc1 : ∀ x c, cl.lookup x = some c → C.env.cells.lookup x = some c) (hc2 : ∀ y ∈ sc.names, y.2 = .free → ∃ c, cl.lookup y.1 = some c)
    (h2 : ∀ C', CxOK C' → C'.K = childKeys C.K xs caps gl → SoundE C' elt elt') (h3 : ∀ C', CxOK C' → C'.K = childKeys C.K xs caps gl → SoundTs C' ifs ifs')
    {items : List AV} {io : Obj} {fp fs : List Addr} {P : Nat → Value → Prop} {St : Nat → Heap → Prop} {Qf : List (List AV) → Prop} {RR : Value → Addr → Result → Shared → Prop}
    (T0 : 0 < s.toks) (R : Rel C σ s.heap m ad news) (it : Iter C items ad news s.heap.objs.size fp fs P St) (hst : St 0 (s.heap.push io)) (hfp : ∀ b ∈ fp, b ≤ s.heap.objs.size) (hsz : items.length ≤ sizeLine)
    (q : compL (compTurnW C.gval σ.loc elt o caps gl ifs) σ.objs.length items (σ.objs ++ [[]]) Qf)
    (hRR : ∀ D L h tk m' ad' news' objs, D = s.heap.objs.size + 1 → L = s.heap.objs.size + 2 → CompDone C (childCx C s.heap xs caps gl sc cl L D) s ad σ.objs.length D L objs h m' ad' news' → Qf objs → RR (.ref D) L (.ok .next) { s with heap := h, toks := tk }) :
    Wp C (newList []) (fun acc s₃ => Wp C (newFunctionEnv sc C.env.globals cl [] C.env.qual none .none (some C.env)) (fun cenv s₄ =>
      codeAny (model C.prog C.w) C.A (.compStart (.ListComp elt' [⟨tgt, iter', ifs', 0⟩] sc pos) 0 (.ref s.heap.objs.size) acc { cenv with scope := relabel sc C.env }) (RR acc cenv.locals) s₄) s₃) { s with heap := s.heap.push io } := by
  refine wpAny_newObj_type (wpAny_newFunctionEnv S.nocell (by intro y hy; simp at hy) (fun h₁ hns₁ hsb₁ => ?_) S.kind)
  dsimp only at hns₁ hsb₁ ⊢
  have hD : (s.heap.push io).objs.size = s.heap.objs.size + 1 := Heap.size_push ..
  generalize hH2 : (s.heap.push io).push { cls := .type "list", dict := none, data := .seq ([] : List Value).toArray } = H2 at hns₁ hsb₁ ⊢
  have hL : H2.objs.size = s.heap.objs.size + 2 := by rw [← hH2, Heap.size_push, Heap.size_push]
  rw [hL] at hns₁ hsb₁ ⊢
  rw [hD]
  generalize hI : s.heap.objs.size = I at *
  have n1 : @Ne Nat I (I + 2) := by (first | lia | omega)
  have n2 : @Ne Nat (I + 1) (I + 2) := by (first | lia | omega)
  have hpu : ∀ (o' : Obj), (H2.push o').objs.size = I + 3 := fun o' => by rw [Heap.size_push, hL]
  have old : ∀ b o', s.heap.get? b = some o' → h₁.get? b = some o' := fun b o' e => by
    have hb : b < I := hI ▸ Heap.lt_size e
    exact hsb₁.extBut b o' (Nat.ne_of_lt (Nat.lt_of_lt_of_le hb (Nat.le_add_right I 2))) (Heap.get?_push_of_some _ (hH2 ▸ Heap.get?_push_of_some _ (Heap.get?_push_of_some _ e)))
  have gI : (s.heap.push io).get? I = h₁.get? I := by
    obtain ⟨oI, _, _, e, _⟩ := it.plain 0 _ hst
    rw [e]
    exact (hsb₁.extBut I oI n1 (Heap.get?_push_of_some _ (hH2 ▸ Heap.get?_push_of_some _ e))).symm
  have gD : h₁.get? (I + 1) = some (lstObj [] 0) := by
    refine hsb₁.extBut (I + 1) _ n2 (Heap.get?_push_of_some _ (hH2 ▸ ?_))
    rw [← hD]
    exact Heap.get?_push_size _ rfl
  have fresh : ∀ a, I ≤ a → s.heap.get? a = none := fun a ha => by
    cases e : s.heap.get? a with
    | none => rfl
    | some o' => exact absurd (Heap.lt_size e) (by rw [hI]; exact Nat.not_lt.mpr ha)
  have okc : CxOK (childCx C s.heap xs caps gl sc cl (I + 2) (I + 1)) := child_ok ok R S hc1 hc2
  have hlen : ad.length = σ.objs.length := R.M.len
  have hadlt : ∀ (i : Nat) (a : Addr), ad[i]? = some a → a < I := fun i a h => hI ▸ R.lt h
  have M0 := comp_M0 (xs := xs) (caps := caps) (gl := gl) (sc := sc) (cl := cl) R hI
  have F0 : Fr s.heap (I + 2) h₁ (fun x => ([] : List (Str × Value)).reverse.lookup x) := ⟨hns₁, old, by rw [hI]; (first | lia | omega)⟩
  have N0 : News s.heap (I + 2) h₁ [(I + 1, lstObj [] 0)] := by
    intro p hp
    rw [List.mem_singleton.mp hp]
    exact ⟨gD, n2, fresh _ (Nat.le_succ _)⟩
  have st0 : St 0 h₁ := it.W.frame 0 _ _ hst fun b hb o' e => by
    rcases it.fpIn b hb with rfl | ⟨o₂, h, _⟩
    · rw [← gI]; exact e
    · have e1 := h.get R
      have e2 := Heap.get?_push_of_some io e1
      rw [e] at e2
      cases e2
      exact old _ _ e1
  have no : ∀ {E : Value → Shared → Prop} (a : Value) (b : Shared), NoE a b → E a b := fun _ _ x => x.elim
  have loop : codeAny (model C.prog C.w) C.A (.compLoop (.ListComp elt' [⟨tgt, iter', ifs', 0⟩] sc pos) 0 (.ref I) (.ref (I + 1)) (compEnvC sc cl (I + 2) C.env)) (RR (.ref (I + 1)) (I + 2)) { s with heap := h₁, toks := s.toks + 0 } := by
    refine loop_rule (LoopInv (childCx C s.heap xs caps gl sc cl (I + 2) (I + 1)) (capLoc σ.loc xs.length caps) I St ad σ.objs.length (compTurnW C.gval σ.loc elt o caps gl ifs) items Qf s) ?_ items.length ?_
    · rintro k s' ⟨i, h, tk, m', ad', news', objs, ⟨rfl, hi⟩, ⟨rfl, T⟩, R', hnI, hsti, pre, hat, ⟨oD, its, hmD, hLD, hlD⟩, q'⟩
      by_cases hlast : i = items.length
      · subst hlast
        refine it.W.done _ _ _ hsti fun h' tk' hk => ?_
        obtain ⟨F', N'⟩ := keep_it R'.F R'.N (fresh _ (Nat.le_refl _)) n1 hnI hk
        simp only [List.drop_length, compL] at q'
        refine hRR (I + 1) (I + 2) h' tk' m' ad' news' objs rfl rfl ⟨⟨F', N', ?_⟩, pre, hat, _, _, hmD, hLD⟩ q'
        exact ⟨fun n v h => (by cases h), R'.M.len, R'.M.obj, R'.M.own, R'.M.inj, R'.M.fzin, R'.M.cells⟩
      · have hlt : i < items.length := by (first | lia | omega)
        refine withT (C := C) T (it.W.item i _ _ _ hlt hsti fun v h' tk' hP hst' hk T' => ?_)
        obtain ⟨F', N'⟩ := keep_it R'.F R'.N (fresh _ (Nat.le_refl _)) n1 hnI hk
        have pI := it.plain _ _ hst'
        obtain ⟨oI, eI, hngI⟩ := it_bad pI
        have R1 : Rel (childCx C s.heap xs caps gl sc cl (I + 2) (I + 1)) ⟨capLoc σ.loc xs.length caps, objs, []⟩ h' m' ad' ((I, oI) :: news') :=
          ⟨F', fun p hp => by
            rcases List.mem_cons.mp hp with rfl | hp
            · exact ⟨eI, n1, fresh _ (Nat.le_refl _)⟩
            · exact N' p hp, R'.M.mono fun _ h => .tail _ h⟩
        obtain ⟨u, hu, rvu⟩ := it.item i v hP hlt
        have rvu' : RV s.heap C.fa ad' ((I, oI) :: news') u v := (down_RV R (led := (I, oI) :: news') rvu).le (fz := []) (.all pre fun _ h => h)
        have hdrop : items.drop i = u :: items.drop (i + 1) := by
          have := List.getElem?_eq_some_iff.mp hu
          obtain ⟨h1, h2⟩ := this
          rw [List.drop_eq_getElem_cons h1, h2]
        rw [hdrop] at q'
        simp only [compL] at q'
        refine letOwned pI ?_
        have hkeys : ∀ (i : Nat) (x : Str), xs[i]? = some x → (childKeys C.K xs caps gl).names[i]? = some x := fun i x h => by
          show (xs ++ _)[i]? = some x
          rw [List.getElem?_append_left (List.getElem?_eq_some_iff.mp h).1]
          exact h
        exact comp_turn (s := s) (n := σ.objs.length) (i := i) (D := I + 1) (Nx := fun x => compL (compTurnW C.gval σ.loc elt o caps gl ifs) σ.objs.length (items.drop (i + 1)) x Qf) (Post := fun s₅ => ∃ m, m < items.length - i ∧ LoopInv (childCx C s.heap xs caps gl sc cl (I + 2) (I + 1)) (capLoc σ.loc xs.length caps) I St ad σ.objs.length (compTurnW C.gval σ.loc elt o caps gl ifs) items Qf s m s₅) (t := tgtOf o) (u := u) (σ := ⟨capLoc σ.loc xs.length caps, objs, []⟩) okc rfl (h2 _ okc rfl) (h3 _ okc rfl) (tgt_match hx _ hkeys) (by
          intro n hn x hxn hxc
          have hlt := tgt_ids hx n hn
          exfalso
          have e1 := hkeys n _ (List.getElem?_eq_getElem hlt)
          have hxn : (childKeys C.K xs caps gl).names[n]? = some x := hxn
          rw [e1] at hxn
          have := List.getElem_mem hlt
          rw [Option.some.inj hxn] at this
          exact nodup_append_not S.nodup this hxc) (bind_child (ℓ := σ.loc) (caps := caps) (objs := objs) (u := u) hx q') T' R1 rvu' (.head _) hngI (.tail _ hmD) hLD hlD (by (first | lia | omega)) hat (.head _) (by exact Nat.ne_of_lt (Nat.lt_succ_self I)) fun σx hx' tkx mx adx newsx => comp_back ok R S hc1 hc2 it hlt hst' eI hngI F'.keep pre hat
    · refine ⟨0, h₁, s.toks + 0, _, ad ++ [I + 1], [(I + 1, lstObj [] 0)], σ.objs ++ [[]], ⟨rfl, Nat.zero_le _⟩, ⟨rfl, T0⟩, ⟨F0, N0, ?_⟩, ?_, st0, snoc_pre, ?_, ⟨_, [], .head _, ⟨0, rfl⟩, Nat.le_refl _⟩, q⟩
      · exact child_rel ok R S hc1 hc2 snoc_pre M0 fun _ _ h _ => h
      · intro p hp
        rw [List.mem_singleton.mp hp]
        exact Nat.succ_ne_self I
      · rw [← hlen, List.getElem?_concat_length]
  exact codeAny_compStart_list loop (it.W.self 0 _ _ _ st0 loop)
end
end Mine
namespace Mine
open PySem PySem.W PySem.Calls PyProof.Rows PyProof.V PySem.Spec

section
variable {C : Cx}
theorem SoundE.seq {p : PE} {e : Expr} (hs : SoundE C p e) {σ : St} {Q : AV → St → Prop} {s : Shared} {m : Str → Option Value} {ad : List Addr} {news : Led} {P : Value → Shared → Prop}
    (T : 0 < s.toks) (q : wpE C.gval C.fns p σ Q) (R : Rel C σ s.heap m ad news)
    (h : ∀ cv s₁ v σ₁ m₁ ad₁ news₁, Q v σ₁ → RV C.base C.fa ad₁ news₁ v cv → Rel C σ₁ s₁.heap m₁ ad₁ news₁ → Le C.fz ad news ad₁ news₁ → Rest s s₁ → 0 < s₁.toks → P cv s₁) :
    Wp C (eval e C.env) P s :=
  wpAny_mono (wpAny_toks (hs σ Q s m ad news T q R)) (fun cv s₁ hp => by
    obtain ⟨ht, v, σ₁, m₁, ad₁, news₁, q₁, rv, R₁, l, r⟩ := hp
    exact h cv s₁ v σ₁ m₁ ad₁ news₁ q₁ rv R₁ l r (Nat.lt_of_lt_of_le T ht)) fun _ _ x => x.2
theorem SoundEs.seq {p : PEs} {es : List Expr} (hs : SoundEs C p es) {σ : St} {Q : List AV → St → Prop} {s : Shared} {m : Str → Option Value} {ad : List Addr} {news : Led} {pos : Pos} {P : List Value → Shared → Prop}
    (T : 0 < s.toks) (q : wpEs C.gval C.fns p σ Q) (R : Rel C σ s.heap m ad news)
    (h : ∀ cv s₁ v σ₁ m₁ ad₁ news₁, Q v σ₁ → RVs C.base C.fa ad₁ news₁ v cv → Rel C σ₁ s₁.heap m₁ ad₁ news₁ → Le C.fz ad news ad₁ news₁ → Rest s s₁ → 0 < s₁.toks → P cv s₁) :
    Wp C (spliced (backTo pos (starEach es C.env))) P s :=
  wpAny_mono (wpAny_toks (hs σ Q s m ad news pos T q R)) (fun cv s₁ hp => by
    obtain ⟨ht, v, σ₁, m₁, ad₁, news₁, q₁, rv, R₁, l, r⟩ := hp
    exact h cv s₁ v σ₁ m₁ ad₁ news₁ q₁ rv R₁ l r (Nat.lt_of_lt_of_le T ht)) fun _ _ x => x.2
theorem SoundT.seq {p : PE} {e : Expr} (hs : SoundT C p e) {σ : St} {Q : AV → St → Prop} {s : Shared} {m : Str → Option Value} {ad : List Addr} {news : Led} {P : Bool → Shared → Prop}
    (T : 0 < s.toks) (q : wpE C.gval C.fns p σ Q) (hq : ∀ v σ', Q v σ' → ∃ b, truth σ' v = some b) (R : Rel C σ s.heap m ad news)
    (h : ∀ b s₁ v σ₁ m₁ ad₁ news₁, truth σ₁ v = some b → Q v σ₁ → Rel C σ₁ s₁.heap m₁ ad₁ news₁ → Le C.fz ad news ad₁ news₁ → Rest s s₁ → 0 < s₁.toks → P b s₁) :
    Wp C (isTrue e C.env (eval e C.env)) P s :=
  wpAny_mono (wpAny_toks (hs σ Q s m ad news T q hq R)) (fun cv s₁ hp => by
    obtain ⟨ht, v, σ₁, m₁, ad₁, news₁, t, q₁, R₁, l, r⟩ := hp
    exact h cv s₁ v σ₁ m₁ ad₁ news₁ t q₁ R₁ l r (Nat.lt_of_lt_of_le T ht)) fun _ _ x => x.2

theorem postV_up {t : Sem Value} {Q : AV → St → Prop} {s₀ s : Shared} {ad₀ ad : List Addr} {news₀ news : Led} (k : Le C.fz ad₀ news₀ ad news) (r : Rest s₀ s) (h : Wp C t (PostV C Q s ad news) s) : Wp C t (PostV C Q s₀ ad₀ news₀) s :=
  wpAny_mono h (fun _ _ x => x.up k r) fun _ _ x => x

theorem sConst {v : AV} {c : Const} {k : Nat} {pos : Pos} (h : mC v c = true) : SoundE C (.const v) (.Constant c k pos) := by
  intro σ Q s m ad news T q R
  have q : Q v σ := q
  unfold mC at h
  split at h
  · exact wpAny_Constant_none (PostV.same R q .none)
  · cases eq_of_beq h; exact wpAny_Constant_bool (PostV.same R q (.bool _))
  · cases eq_of_beq h; exact wpAny_Constant_int (PostV.here R q (.int _ _))
  · cases eq_of_beq h; exact wpAny_Constant_float (PostV.here R q (.float _ _ (Nat.ne_of_gt T)))
  · cases eq_of_beq h; exact wpAny_Constant_str (PostV.here R q (.str _ _))
  · cases h

theorem load_sound (ok : CxOK C) {σ : St} {s : Shared} {m : Str → Option Value} {ad : List Addr} {news : Led} {x : Str} {cv : Value} {Q : Value → Shared → Prop} (hx : x ∈ C.K.names) (R : Rel C σ s.heap m ad news) (hv : VarAt C m news x cv) (q : Q cv s) :
    Wp C (loadName C.env x) Q s := by
  obtain ⟨hd, hl, hc⟩ := ok.locs x hx
  unfold VarAt at hv
  by_cases hx' : x ∈ C.K.cells
  · rw [if_pos hx'] at hv
    obtain ⟨c, o, h1, h2, h3⟩ := hv
    exact wpAny_loadName_cell ok.kind (hc hx') h1 ⟨o, h2.get R, h3⟩ q
  · rw [if_neg hx'] at hv
    exact wpAny_loadName_local ok.kind (hl hx') R.F.ns hv q

theorem sLoc (ok : CxOK C) {n : Nat} {x : Str} {pos : Pos} (h : C.K.names[n]? = some x) : SoundE C (.loc n) (.Name x pos) := by
  intro σ Q s m ad news T q R
  obtain ⟨v, hv, q⟩ := q
  obtain ⟨x', cv, h1, h2, h3⟩ := R.M.loc n v hv
  rw [h] at h1
  cases h1
  have hx := List.mem_of_getElem? h
  exact wpAny_Name (load_sound ok hx R h2 (PostV.same R q h3)) (ok.locs x hx).1

theorem sGlob (ok : CxOK C) {n : Nat} {x : Str} {pos : Pos} (h : C.K.globs[n]? = some x) (hf : x ∉ C.K.far) : SoundE C (.glob n) (.Name x pos) := by
  intro σ Q s m ad news T q R
  obtain ⟨v, hv, q⟩ := q
  obtain ⟨⟨hd, hk⟩, cv, hg, hm⟩ := ok.globs n x v h hv
  replace hk := hk hf
  have rv : RV C.base C.fa ad news v cv := by
    cases v <;> cases cv <;> first | (exact hg.elim) | skip
    · cases hg; exact .typ _
    · cases hg; exact .bi _
    · obtain ⟨rfl, o, fd, h1, h2⟩ := hg
      exact .fn _ o fd h1 h2
  have g : s.heap.Ns C.env.globals C.mg := by rw [ok.eg]; exact ok.g.keeps R.F.keep
  have b : s.heap.Ns C.env.builtins C.mb := by rw [ok.eb]; exact ok.b.keeps R.F.keep
  refine Calls.Name_function_global ok.kind hk ?_ hd
  rcases hm with hm | ⟨h1, h2⟩
  · exact Calls.loadGlobal_global g hm (PostV.same R q rv)
  · exact Calls.loadGlobal_builtin g h1 b h2 (PostV.same R q rv)

theorem sBin (ok : CxOK C) {op : Operator} {l r : PE} {l' r' : Expr} {pos : Pos} (h1 : SoundE C l l') (h2 : SoundE C r r') : SoundE C (.bin op l r) (.BinOp l' op r' pos) := by
  intro σ Q s m ad news T q R
  refine wpAny_BinOp (h1.seq T q R fun ca s₁ a σ₁ m₁ ad₁ news₁ q₁ ra R₁ l₁ r₁ T₁ => h2.seq T₁ q₁ R₁ fun cb s₂ b σ₂ m₂ ad₂ news₂ q₂ rb R₂ l₂ r₂ T₂ => ?_)
  exact postV_up (l₁.trans l₂) (r₁.trans r₂) (binL_sound T₂ R₂ (ra.le l₂) rb ok q₂)

theorem sNeg (ok : CxOK C) {p : PE} {e : Expr} {pos : Pos} (h1 : SoundE C p e) : SoundE C (.neg p) (.UnaryOp .USub e pos) := by
  intro σ Q s m ad news T q R
  refine UnaryOp_ (h1.seq T q R fun ca s₁ a σ₁ m₁ ad₁ news₁ q₁ ra R₁ l₁ r₁ T₁ => ?_)
  obtain ⟨i, rfl, q₁⟩ := q₁
  cases ra
  exact postV_up l₁ r₁ (PyProof.Rows.neg_int (PostV.here R₁ q₁ (.int _ _)))

theorem sNot (ok : CxOK C) {p : PE} {e : Expr} {pos : Pos} (h1 : SoundE C p e) (h2 : SoundT C p e) : SoundE C (.not p) (.UnaryOp .Not e pos) ∧ SoundT C (.not p) (.UnaryOp .Not e pos) := by
  constructor
  · intro σ Q s m ad news T q R
    refine UnaryOp_ (h1.seq T q R fun ca s₁ a σ₁ m₁ ad₁ news₁ q₁ ra R₁ l₁ r₁ T₁ => ?_)
    obtain ⟨b, hb, q₁⟩ := truthW_iff.mp q₁
    refine not_of (wpAny_mono (truth_sound R₁ ra hb) (fun c s₂ hc => ?_) fun _ _ x => x)
    obtain ⟨⟨tk, rfl⟩, rfl⟩ := hc
    exact (PostV.here R₁ q₁ (.bool _)).up l₁ r₁
  · intro σ Q s m ad news T q hq R
    refine isTrue_not (h2.seq T q (fun v σ' h => by obtain ⟨b, hb, _⟩ := truthW_iff.mp h; exact ⟨b, hb⟩) R fun b s₁ v σ₁ m₁ ad₁ news₁ ht q₁ R₁ l₁ r₁ T₁ => ?_)
    obtain ⟨b', hb, q₁⟩ := truthW_iff.mp q₁
    rw [ht] at hb
    cases hb
    exact ⟨_, σ₁, m₁, ad₁, news₁, rfl, q₁, R₁, l₁, r₁⟩

theorem sCmp (ok : CxOK C) {op : CmpOp} {l r : PE} {l' r' : Expr} {pos : Pos} (hm : behindInMarks op r' = false) (h1 : SoundE C l l') (h2 : SoundE C r r') :
    SoundE C (.cmp op l r) (.Compare l' [op] [r'] pos) ∧ SoundT C (.cmp op l r) (.Compare l' [op] [r'] pos) := by
  constructor
  · intro σ Q s m ad news T q R
    refine wpAny_Compare1 (h1.seq T q R fun ca s₁ a σ₁ m₁ ad₁ news₁ q₁ ra R₁ l₁ r₁ T₁ => h2.seq T₁ q₁ R₁ fun cb s₂ b σ₂ m₂ ad₂ news₂ q₂ rb R₂ l₂ r₂ T₂ => ?_) hm
    refine wpAny_mono (cmpL_sound R₂ (ra.le l₂) rb ok q₂) (fun cv s₃ h3 => ?_) fun _ _ x => x
    obtain ⟨c, rfl, rfl, q₃⟩ := h3
    exact (PostV.same R₂ q₃ (.bool _)).up (l₁.trans l₂) (r₁.trans r₂)
  · intro σ Q s m ad news T q hq R
    refine wpAny_isTrue_Compare1 (h1.seq T q R fun ca s₁ a σ₁ m₁ ad₁ news₁ q₁ ra R₁ l₁ r₁ T₁ => h2.seq T₁ q₁ R₁ fun cb s₂ b σ₂ m₂ ad₂ news₂ q₂ rb R₂ l₂ r₂ T₂ => ?_) hm
    refine wpAny_mono (cmpL_sound R₂ (ra.le l₂) rb ok q₂) (fun cv s₃ h3 => ?_) fun _ _ x => x
    obtain ⟨c, rfl, rfl, q₃⟩ := h3
    exact wpAny_truthy_bool ⟨_, σ₂, m₂, ad₂, news₂, rfl, q₃, R₂, l₁.trans l₂, r₁.trans r₂⟩

theorem sIte (ok : CxOK C) {c a b : PE} {c' a' b' : Expr} {pos : Pos} (h1 : SoundT C c c') (h2 : SoundE C a a') (h3 : SoundE C b b') (h4 : SoundT C a a') (h5 : SoundT C b b') :
    SoundE C (.ite c a b) (.IfExp c' a' b' pos) ∧ SoundT C (.ite c a b) (.IfExp c' a' b' pos) := by
  have side : ∀ {Q : AV → St → Prop} (v : AV) (σ' : St), (truthW v σ' fun t => (t = true → wpE C.gval C.fns a σ' Q) ∧ (t = false → wpE C.gval C.fns b σ' Q)) → ∃ b, truth σ' v = some b :=
    fun v σ' h => by obtain ⟨b, hb, _⟩ := truthW_iff.mp h; exact ⟨b, hb⟩
  constructor
  · intro σ Q s m ad news T q R
    refine IfExp_ (h1.seq T q side R fun t s₁ v σ₁ m₁ ad₁ news₁ ht q₁ R₁ l₁ r₁ T₁ => ?_)
    obtain ⟨t', hb, q₁⟩ := truthW_iff.mp q₁
    rw [ht] at hb
    cases hb
    cases t
    · exact postV_up l₁ r₁ (h3 _ _ _ _ _ _ T₁ (q₁.2 rfl) R₁)
    · exact postV_up l₁ r₁ (h2 _ _ _ _ _ _ T₁ (q₁.1 rfl) R₁)
  · intro σ Q s m ad news T q hq R
    refine isTrue_IfExp (h1.seq T q side R fun t s₁ v σ₁ m₁ ad₁ news₁ ht q₁ R₁ l₁ r₁ T₁ => ?_)
    obtain ⟨t', hb, q₁⟩ := truthW_iff.mp q₁
    rw [ht] at hb
    cases hb
    cases t
    · exact wpAny_mono (h5 _ _ _ _ _ _ T₁ (q₁.2 rfl) hq R₁) (fun _ _ x => x.up l₁ r₁) fun _ _ x => x
    · exact wpAny_mono (h4 _ _ _ _ _ _ T₁ (q₁.1 rfl) hq R₁) (fun _ _ x => x.up l₁ r₁) fun _ _ x => x

theorem sTuple (ok : CxOK C) {ps : PEs} {es : List Expr} {k : Nat} {pos : Pos} (h1 : SoundEs C ps es) : SoundE C (.tuple ps) (.Tuple es k pos) := by
  intro σ Q s m ad news T q R
  refine Tuple_ (h1.seq T q R fun cs s₁ vs σ₁ m₁ ad₁ news₁ q₁ rs R₁ l₁ r₁ T₁ => ?_)
  refine newTuple_N R₁.F R₁.N (fun h' F' N' => ?_) (by rw [← rs.length]; exact q₁.1)
  exact ⟨_, σ₁, m₁, ad₁, _, q₁.2, .tup _ cs _ 0 (.inl (.head _)) (rs.le (Le.cons (fz := []))), R₁.more F' N', l₁.trans Le.cons, r₁.trans Rest.heap⟩

theorem sList (ok : CxOK C) {ps : PEs} {es : List Expr} {pos : Pos} (h1 : SoundEs C ps es) : SoundE C (.list ps) (.List es pos) := by
  intro σ Q s m ad news T q R
  refine List_ (h1.seq T q R fun cs s₁ vs σ₁ m₁ ad₁ news₁ q₁ rs R₁ l₁ r₁ T₁ => ?_)
  obtain ⟨hz, n, rfl, q₁⟩ := q₁
  refine newList_N R₁.F R₁.N (fun h' F' N' => ?_) (by rw [← rs.length]; exact hz)
  refine ⟨_, _, m₁, ad₁ ++ [s₁.heap.objs.size], _, q₁, .lst _ _ ?_, R₁.alloc F' N' (Nat.le_refl _) rs, l₁.trans Le.snoc, r₁.trans Rest.heap⟩
  rw [← R₁.M.len, List.getElem?_concat_length]

theorem RVs.rep {base : Heap} {fa : FA} {ad : List Addr} {news : Led} {l : List AV} {c : List Value} (h : RVs base fa ad news l c) : ∀ n : Nat, RVs base fa ad news (List.replicate n l).flatten (List.replicate n c).flatten
  | 0 => .nil
  | n + 1 => by
    rw [List.replicate_succ, List.flatten_cons, List.replicate_succ, List.flatten_cons]
    exact h.append (RVs.rep h n)
theorem sSub (ok : CxOK C) {p i : PE} {e i' : Expr} {pos : Pos} (hp : (match i' with | .Slice .. => false | _ => true) = true) (h1 : SoundE C p e) (h2 : SoundE C i i') : SoundE C (.sub p i) (.Subscript e i' pos) := by
  intro σ Q s m ad news T q R
  refine Subscript_ (h1.seq T q R fun ca s₁ a σ₁ m₁ ad₁ news₁ q₁ ra R₁ l₁ r₁ T₁ => h2.seq T₁ q₁ R₁ fun cb s₂ b σ₂ m₂ ad₂ news₂ q₂ rb R₂ l₂ r₂ T₂ => ?_)
  exact postV_up (l₁.trans l₂) (r₁.trans r₂) (sub_sound R₂ (ra.le l₂) rb hp q₂)

theorem sSlTo (ok : CxOK C) {p hi : PE} {e hi' : Expr} {p₁ pos : Pos} (h1 : SoundE C p e) (h2 : SoundE C hi hi') : SoundE C (.slTo p hi) (.Subscript e (.Slice none (some hi') none p₁) pos) := by
  intro σ Q s m ad news T q R
  refine Subscript_ (h1.seq T q R fun ca s₁ a σ₁ m₁ ad₁ news₁ q₁ ra R₁ l₁ r₁ T₁ => wpAny_Slice (evalPart_none_step (evalPart_some_step (h2.seq T₁ q₁ R₁ fun cb s₂ b σ₂ m₂ ad₂ news₂ q₂ rb R₂ l₂ r₂ T₂ => evalPart_none_step ?_))))
  obtain ⟨k, rfl, q₂⟩ := q₂
  cases rb
  exact wpAny_mono (slice_sound (value := none) R₂ (ra.le l₂) .none (.int _ _) q₂) (fun _ _ x => x.up (l₁.trans l₂) (r₁.trans r₂)) fun _ _ x => x
theorem sSlFrom (ok : CxOK C) {p lo : PE} {e lo' : Expr} {p₁ pos : Pos} (h1 : SoundE C p e) (h2 : SoundE C lo lo') : SoundE C (.slFrom p lo) (.Subscript e (.Slice (some lo') none none p₁) pos) := by
  intro σ Q s m ad news T q R
  refine Subscript_ (h1.seq T q R fun ca s₁ a σ₁ m₁ ad₁ news₁ q₁ ra R₁ l₁ r₁ T₁ => wpAny_Slice (evalPart_some_step (h2.seq T₁ q₁ R₁ fun cb s₂ b σ₂ m₂ ad₂ news₂ q₂ rb R₂ l₂ r₂ T₂ => evalPart_none_step (evalPart_none_step ?_))))
  obtain ⟨k, rfl, q₂⟩ := q₂
  cases rb
  exact wpAny_mono (slice_sound (value := none) R₂ (ra.le l₂) (.int _ _) .none q₂) (fun _ _ x => x.up (l₁.trans l₂) (r₁.trans r₂)) fun _ _ x => x
theorem sEsNil (ok : CxOK C) : SoundEs C .nil [] := by
  intro σ Q s m ad news pos T q R
  exact spliced_none ⟨[], σ, m, ad, news, q, .nil, R, Le.refl, Rest.refl⟩
theorem sEsCons (ok : CxOK C) {p : PE} {e : Expr} {ps : PEs} {es : List Expr} (hn : (match e with | .Starred .. => false | _ => true) = true) (h1 : SoundE C p e) (h2 : SoundEs C ps es) : SoundEs C (.cons p ps) (e :: es) := by
  intro σ Q s m ad news pos T q R
  have he : starEach (e :: es) C.env = (false, eval e C.env) :: starEach es C.env := by cases e <;> first | rfl | cases hn
  refine spliced_more (h1.seq T q R fun ca s₁ a σ₁ m₁ ad₁ news₁ q₁ ra R₁ l₁ r₁ T₁ => h2.seq T₁ q₁ R₁ fun cs s₂ vs σ₂ m₂ ad₂ news₂ q₂ rs R₂ l₂ r₂ T₂ => ?_) he
  exact ⟨_, σ₂, m₂, ad₂, news₂, q₂, .cons _ _ _ _ (ra.le l₂) rs, R₂, l₁.trans l₂, r₁.trans r₂⟩

theorem and2' {a b : Bool} (h : (a && b) = true) : a = true ∧ b = true := by cases a <;> cases b <;> first | exact ⟨rfl, rfl⟩ | cases h
theorem plain_any (env : Env) (pos : Pos) : ∀ {ps : PEs} {es : List Expr} (K : Keys), mEs K ps es = true → (backTo pos (starEach es env)).any (·.1) = false
  | .nil, [], _, _ => rfl
  | .nil, _ :: _, _, h => by cases h
  | .cons _ _, [], _, h => by cases h
  | .cons p ps, e :: es, K, h => by
    replace h : notStar e = true ∧ mE K p e = true ∧ mEs K ps es = true := ⟨(and2' h).1, and2' (and2' h).2⟩
    have he : starEach (e :: es) env = (false, eval e env) :: starEach es env := by cases e <;> first | rfl | cases h.1
    rw [he]
    show (false || (backTo pos (starEach es env)).any (·.1)) = false
    rw [plain_any env pos K h.2.2]
    rfl

theorem sCall (ok : CxOK C) {f : PE} {ps : PEs} {x : Str} {np pos : Pos} {e : Expr} {es : List Expr} (h1 : SoundE C f (.Name x np)) (h2 : SoundEs C ps (e :: es)) (hm : mEs C.K ps (e :: es) = true) : SoundE C (.call f ps) (.Call (.Name x np) (e :: es) [] pos) := by
  intro σ Q s m ad news T q R
  refine Call_ (h1.seq T q R fun cf s₁ fv σ₁ m₁ ad₁ news₁ q₁ rf R₁ l₁ r₁ T₁ => ?_)
  obtain ⟨hc, q₁⟩ := q₁
  have he : starEach (e :: es) C.env = (false, eval e C.env) :: starEach es C.env ∧ (backTo pos (starEach es C.env)).any (·.1) = false := by
    cases ps with
    | nil => cases hm
    | cons p ps =>
      replace hm : notStar e = true ∧ mE C.K p e = true ∧ mEs C.K ps es = true := ⟨(and2' hm).1, and2' (and2' hm).2⟩
      refine ⟨?_, plain_any C.env pos C.K hm.2.2⟩
      cases e <;> first | rfl | cases hm.1
  have args : Wp C (spliced (backTo pos (starEach (e :: es) C.env))) (fun vs s₂ => (∀ b o, C.base.get? b = some o → s₂.heap.get? b = some o) ∧ Wp C (call cf vs) (PostV C Q s ad news) s₂) s₁ :=
    h2.seq T₁ q₁ R₁ fun cs s₂ vs σ₂ m₂ ad₂ news₂ q₂ rs R₂ l₂ r₂ T₂ => ⟨R₂.F.keep, postV_up (l₁.trans l₂) (r₁.trans r₂) (call_sound T₂ R₂ (rf.le l₂) rs ok q₂)⟩
  cases rf with
  | bi b => exact PyProof.Rows.callWith_builtin1 (wpAny_mono args (fun _ _ x => x.2) fun _ _ x => x) he.1 he.2
  | typ t => exact PyProof.Rows.callWith_type1 (wpAny_mono args (fun _ _ x => x.2) fun _ _ x => x) he.1 he.2
  | fn k o fd ho hd => exact callWith_def hd (wpAny_mono args (fun _ _ x => ⟨x.1 _ _ (ok.htop _ _ ho), x.2⟩) fun _ _ x => x) he.1
  | _ => cases hc

theorem sComp (ok : CxOK C) {elt iter : PE} {o : Option Nat} {caps gl : List Nat} {ifs : PEs} {elt' tgt iter' : Expr} {ifs' : List Expr} {sc : Scope} {pos : Pos} {xs : List Str} (hset : notSet iter' = true)
    (hx : tgtNames o tgt = some xs) (hsc : scopeOk C.K xs caps gl sc = true) (h1 : SoundE C iter iter')
    (h2 : ∀ C', CxOK C' → C'.K = childKeys C.K xs caps gl → SoundE C' elt elt') (h3 : ∀ C', CxOK C' → C'.K = childKeys C.K xs caps gl → SoundTs C' ifs ifs') :
    SoundE C (.comp elt o caps gl iter ifs) (.ListComp elt' [⟨tgt, iter', ifs', 0⟩] sc pos) := by
  intro σ Q s m ad news T q R
  have S := scope_ok hsc
  obtain ⟨cl, e1, hc1, hc2⟩ := clos C.env sc (fun y hy hf => by
    obtain ⟨i, hi, e⟩ := S.free y hy hf
    rw [← e]
    exact ok.cellat _ (S.cp i hi).1.2)
  have hs : ∀ v, foldedSetIterable iter' C.env v = pure v := by intro v; cases iter' <;> first | rfl | cases hset
  show Wp C (comprehension (.ListComp elt' [⟨tgt, iter', ifs', 0⟩] sc pos) sc C.env (firstIterPos [⟨tgt, iter', ifs', 0⟩] pos) (newList []) false (eval iter' C.env)) _ s
  refine (wpAny_comprehension_free (use := none) (g := ⟨tgt, iter', ifs', 0⟩) (gs := []) rfl hs e1 S.kind S.names (h1.seq T q R fun cv s₁ v σ₁ m₁ ad₁ news₁ q₁ rv R₁ l₁ r₁ T₁ => ?_))
  refine iter_sound ok q₁ R₁ rv fun items io fp fs P St hk it hf hst hfp => ?_
  obtain ⟨hsz, n, rfl, qc⟩ := hk
  refine comp_block (RR := compPost (model C.prog C.w) C.A NoE none (PostV C Q s ad news)) ok S hx hc1 hc2 h2 h3 T₁ R₁ it hst hfp hsz qc ?_
  rintro D L h tk m' ad' news' objs hD hL ⟨Rc, pre, hat, oD, its, hmD, hLD⟩ qf
  refine ⟨m', Rc.F.ns, fun h' hs' => ?_⟩
  have keep : ∀ b o, s₁.heap.get? b = some o → h'.get? b = some o := fun b o e => (hs'.2 b (Nat.ne_of_lt (Nat.lt_of_lt_of_le (Heap.lt_size e) Rc.F.above))).trans (Rc.F.keep b o e)
  have N' : News s₁.heap L h' news' := fun p hp => ⟨(hs'.2 _ (Rc.N p hp).2.1).trans (Rc.N p hp).1, (Rc.N p hp).2⟩
  have R' := up_RelK (C' := childCx C s₁.heap xs caps gl sc cl L D) R₁ keep N' Rc.M rfl rfl pre
  refine ⟨.lst σ₁.objs.length, ⟨σ₁.loc, objs, σ₁.objs.length :: σ₁.own⟩, m₁, ad', _, qf, .lst _ D hat, ⟨R'.F, R'.N, ?_⟩, l₁.trans (up_Le R₁ pre), r₁.trans Rest.mk'⟩
  refine ⟨R'.M.loc, R'.M.len, R'.M.obj, fun i hi => ?_, R'.M.inj, R'.M.fzin, R'.M.cells⟩
  rcases List.mem_cons.mp hi with rfl | hi
  · refine ⟨D, oD, hat, ⟨List.mem_append_right _ hmD, its, hLD⟩, fun hf' => ?_⟩
    have := R₁.fz_lt hf'
    rw [hD] at this
    exact absurd this (Nat.not_lt.mpr (Nat.le_succ _))
  · exact R'.M.own i hi

theorem and2 {a b : Bool} (h : (a && b) = true) : a = true ∧ b = true := and2' h
theorem sBoth {C : Cx} {p : PE} {e : Expr} (hE : SoundE C p e) (h : ∀ whole, isTrue e C.env whole = (do let v ← whole; standAt e.pos; holding [v] (truthy v))) : SoundE C p e ∧ SoundT C p e := ⟨hE, testOf hE h⟩
noncomputable def Vconst (K : Keys) (e : Expr) (v : AV) : Prop := ∃ c k pos, e = .Constant c k pos ∧ mC v c = true
theorem inv_const {K : Keys} {e : Expr} {v : AV} (h : mE K (.const v) e = true) : Vconst K e v := by
  cases e <;> first | exact (Bool.false_ne_true h).elim | exact ⟨_, _, _, rfl, h⟩
noncomputable def Vloc (K : Keys) (e : Expr) (n : Nat) : Prop := ∃ x pos, e = .Name x pos ∧ (K.names[n]? == some x) = true
theorem inv_loc {K : Keys} {e : Expr} {n : Nat} (h : mE K (.loc n) e = true) : Vloc K e n := by
  cases e <;> first | exact (Bool.false_ne_true h).elim | exact ⟨_, _, rfl, h⟩
noncomputable def Vglob (K : Keys) (e : Expr) (n : Nat) : Prop := ∃ x pos, e = .Name x pos ∧ (K.globs[n]? == some x && !(K.far.contains x)) = true
theorem inv_glob {K : Keys} {e : Expr} {n : Nat} (h : mE K (.glob n) e = true) : Vglob K e n := by
  cases e <;> first | exact (Bool.false_ne_true h).elim | exact ⟨_, _, rfl, h⟩
noncomputable def Vbin (K : Keys) (e : Expr) (op : Operator) (l r : PE) : Prop := ∃ l' op' r' pos, e = .BinOp l' op' r' pos ∧ (op == op' && (mE K l l' && mE K r r')) = true
theorem inv_bin {K : Keys} {e : Expr} {op : Operator} {l r : PE} (h : mE K (.bin op l r) e = true) : Vbin K e op l r := by
  cases e <;> first | exact (Bool.false_ne_true h).elim | exact ⟨_, _, _, _, rfl, h⟩
noncomputable def Vneg (K : Keys) (e : Expr) (p : PE) : Prop := ∃ e' pos, e = .UnaryOp .USub e' pos ∧ mE K p e' = true
theorem inv_neg {K : Keys} {e : Expr} {p : PE} (h : mE K (.neg p) e = true) : Vneg K e p := by
  cases e <;> first | exact (Bool.false_ne_true h).elim | skip
  rename_i uop e' pos
  cases uop <;> first | exact (Bool.false_ne_true h).elim | exact ⟨_, _, rfl, h⟩
noncomputable def Vnot (K : Keys) (e : Expr) (p : PE) : Prop := ∃ e' pos, e = .UnaryOp .Not e' pos ∧ mE K p e' = true
theorem inv_not {K : Keys} {e : Expr} {p : PE} (h : mE K (.not p) e = true) : Vnot K e p := by
  cases e <;> first | exact (Bool.false_ne_true h).elim | skip
  rename_i uop e' pos
  cases uop <;> first | exact (Bool.false_ne_true h).elim | exact ⟨_, _, rfl, h⟩
noncomputable def Vcmp (K : Keys) (e : Expr) (op : CmpOp) (l r : PE) : Prop := ∃ l' op' r' pos, e = .Compare l' [op'] [r'] pos ∧ (op == op' && (behindInMarks op' r' == false && (mE K l l' && mE K r r'))) = true
theorem inv_cmp {K : Keys} {e : Expr} {op : CmpOp} {l r : PE} (h : mE K (.cmp op l r) e = true) : Vcmp K e op l r := by
  cases e <;> first | exact (Bool.false_ne_true h).elim | skip
  rename_i l' ops cs pos
  match ops, cs, h with
  | [op'], [r'], h => exact ⟨_, _, _, _, rfl, h⟩
noncomputable def Vbools (K : Keys) (e : Expr) (b : Bool) (es : PEs) : Prop := ∃ es' pos, e = .BoolOp (if b then .And else .Or) es' pos ∧ mEs K es es' = true
theorem inv_bools {K : Keys} {e : Expr} {b : Bool} {es : PEs} (h : mE K (.bools b es) e = true) : Vbools K e b es := by
  cases e <;> first | exact (Bool.false_ne_true h).elim | skip
  rename_i bop es' pos
  cases b <;> cases bop <;> first | exact ⟨_, _, rfl, h⟩ | exact (Bool.false_ne_true h).elim
noncomputable def Vite (K : Keys) (e : Expr) (c a b : PE) : Prop := ∃ c' a' b' pos, e = .IfExp c' a' b' pos ∧ (mE K c c' && (mE K a a' && mE K b b')) = true
theorem inv_ite {K : Keys} {e : Expr} {c a b : PE} (h : mE K (.ite c a b) e = true) : Vite K e c a b := by
  cases e <;> first | exact (Bool.false_ne_true h).elim | exact ⟨_, _, _, _, rfl, h⟩
noncomputable def Vcall (K : Keys) (e : Expr) (f : PE) (args : PEs) : Prop := ∃ x np e' args' pos, e = .Call (.Name x np) (e' :: args') [] pos ∧ (mE K f (.Name x np) && mEs K args (e' :: args')) = true
theorem inv_call {K : Keys} {e : Expr} {f : PE} {args : PEs} (h : mE K (.call f args) e = true) : Vcall K e f args := by
  cases e <;> first | exact (Bool.false_ne_true h).elim | skip
  rename_i f' es kws pos
  cases es with
  | nil => cases f' <;> cases kws <;> exact (Bool.false_ne_true h).elim
  | cons e₁ es =>
    cases kws with
    | cons _ _ => cases f' <;> exact (Bool.false_ne_true h).elim
    | nil => cases f' <;> first | exact (Bool.false_ne_true h).elim | exact ⟨_, _, _, _, _, rfl, h⟩
noncomputable def Vsub (K : Keys) (e : Expr) (p i : PE) : Prop := ∃ e' i' pos, e = .Subscript e' i' pos ∧ (notSlice i' && (mE K p e' && mE K i i')) = true
theorem inv_sub {K : Keys} {e : Expr} {p i : PE} (h : mE K (.sub p i) e = true) : Vsub K e p i := by
  cases e <;> first | exact (Bool.false_ne_true h).elim | exact ⟨_, _, _, rfl, h⟩
noncomputable def VslTo (K : Keys) (e : Expr) (p hi : PE) : Prop := ∃ e' hi' p₁ pos, e = .Subscript e' (.Slice none (some hi') none p₁) pos ∧ (mE K p e' && mE K hi hi') = true
theorem inv_slTo {K : Keys} {e : Expr} {p hi : PE} (h : mE K (.slTo p hi) e = true) : VslTo K e p hi := by
  cases e <;> first | exact (Bool.false_ne_true h).elim | skip
  rename_i e' sl pos
  cases sl <;> first | exact (Bool.false_ne_true h).elim | skip
  rename_i lo' hi' st' p₁
  cases lo' <;> cases hi' <;> cases st' <;> first | exact (Bool.false_ne_true h).elim | exact ⟨_, _, _, _, rfl, h⟩
noncomputable def VslFrom (K : Keys) (e : Expr) (p lo : PE) : Prop := ∃ e' lo' p₁ pos, e = .Subscript e' (.Slice (some lo') none none p₁) pos ∧ (mE K p e' && mE K lo lo') = true
theorem inv_slFrom {K : Keys} {e : Expr} {p lo : PE} (h : mE K (.slFrom p lo) e = true) : VslFrom K e p lo := by
  cases e <;> first | exact (Bool.false_ne_true h).elim | skip
  rename_i e' sl pos
  cases sl <;> first | exact (Bool.false_ne_true h).elim | skip
  rename_i lo' hi' st' p₁
  cases lo' <;> cases hi' <;> cases st' <;> first | exact (Bool.false_ne_true h).elim | exact ⟨_, _, _, _, rfl, h⟩
noncomputable def Vtuple (K : Keys) (e : Expr) (es : PEs) : Prop := ∃ es' k pos, e = .Tuple es' k pos ∧ mEs K es es' = true
theorem inv_tuple {K : Keys} {e : Expr} {es : PEs} (h : mE K (.tuple es) e = true) : Vtuple K e es := by
  cases e <;> first | exact (Bool.false_ne_true h).elim | exact ⟨_, _, _, rfl, h⟩
noncomputable def Vlist (K : Keys) (e : Expr) (es : PEs) : Prop := ∃ es' pos, e = .List es' pos ∧ mEs K es es' = true
theorem inv_list {K : Keys} {e : Expr} {es : PEs} (h : mE K (.list es) e = true) : Vlist K e es := by
  cases e <;> first | exact (Bool.false_ne_true h).elim | exact ⟨_, _, rfl, h⟩
noncomputable def Vcomp (K : Keys) (e : Expr) (elt iter : PE) (o : Option Nat) (caps gl : List Nat) (ifs : PEs) : Prop := ∃ elt' tgt iter' ifs' sc pos xs, e = .ListComp elt' [⟨tgt, iter', ifs', 0⟩] sc pos ∧
    tgtNames o tgt = some xs ∧ notSet iter' = true ∧ scopeOk K xs caps gl sc = true ∧ ifs'.length ≤ 1 ∧ mE K iter iter' = true ∧ mE (childKeys K xs caps gl) elt elt' = true ∧ mEs (childKeys K xs caps gl) ifs ifs' = true
theorem inv_comp {K : Keys} {e : Expr} {elt iter : PE} {o : Option Nat} {caps gl : List Nat} {ifs : PEs} (h : mE K (.comp elt o caps gl iter ifs) e = true) : Vcomp K e elt iter o caps gl ifs := by
  cases e <;> first | exact (Bool.false_ne_true h).elim | skip
  rename_i elt' gens sc pos
  match gens, h with
  | [⟨tgt, iter', ifs', 0⟩], h =>
    obtain ⟨hset, h⟩ := and2 h
    obtain ⟨h1, h⟩ := and2 h
    unfold compKeys at h
    cases hx : tgtNames o tgt with
    | none => rw [hx] at h; cases h
    | some xs =>
      rw [hx] at h
      obtain ⟨ha, hb⟩ := and2 h
      obtain ⟨hc, hd⟩ := and2 ha
      obtain ⟨he, hf⟩ := and2 hb
      exact ⟨_, _, _, _, _, _, xs, rfl, hx, hset, hc, of_decide_eq_true hd, h1, he, hf⟩
mutual
theorem sound : ∀ (p : PE) (C : Cx) (ok : CxOK C) (e : Expr), mE C.K p e = true → SoundE C p e ∧ SoundT C p e
  | .const v, C, ok, e, h => by
    obtain ⟨c, k, pos, rfl, h⟩ := inv_const h
    exact sBoth (sConst h) fun _ => rfl
  | .loc n, C, ok, e, h => by
    obtain ⟨x, pos, rfl, h⟩ := inv_loc h
    exact sBoth (sLoc ok (eq_of_beq h)) fun _ => rfl
  | .glob n, C, ok, e, h => by
    obtain ⟨x, pos, rfl, h⟩ := inv_glob h
    obtain ⟨h1, h2⟩ := and2 h
    exact sBoth (sGlob ok (eq_of_beq h1) (by intro hm; rw [List.contains_iff_mem.mpr hm] at h2; cases h2)) fun _ => rfl
  | .bin op l r, C, ok, e, h => by
    obtain ⟨l', op', r', pos, rfl, h⟩ := inv_bin h
    obtain ⟨ho, h⟩ := and2 h
    obtain ⟨h1, h2⟩ := and2 h
    cases eq_of_beq ho
    exact sBoth (sBin ok (sound l C ok _ h1).1 (sound r C ok _ h2).1) fun _ => rfl
  | .neg p, C, ok, e, h => by
    obtain ⟨e', pos, rfl, h⟩ := inv_neg h
    exact sBoth (sNeg ok (sound p C ok _ h).1) fun _ => rfl
  | .not p, C, ok, e, h => by
    obtain ⟨e', pos, rfl, h⟩ := inv_not h
    exact sNot ok (sound p C ok _ h).1 (sound p C ok _ h).2
  | .cmp op l r, C, ok, e, h => by
    obtain ⟨l', op', r', pos, rfl, h⟩ := inv_cmp h
    obtain ⟨ho, h⟩ := and2 h
    obtain ⟨hm, h⟩ := and2 h
    obtain ⟨h1, h2⟩ := and2 h
    cases eq_of_beq ho
    exact sCmp ok (eq_of_beq hm) (sound l C ok _ h1).1 (sound r C ok _ h2).1
  | .cmp2 _ _ _ _ _, C, ok, e, h => by cases h
  | .bools isAnd es, C, ok, e, h => by
    obtain ⟨es', pos, rfl, hm⟩ := inv_bools h
    match es, es', hm with
    | .nil, [], _ => exact ⟨fun σ Q s m ad news _ q => q.elim, fun σ Q s m ad news _ q => q.elim⟩
    | .cons p ps, e₁ :: es₁, hm =>
      have h1 := sound p C ok e₁ (and2 (and2 hm).2).1
      have h2 := soundBr ps isAnd C ok es₁ (and2 (and2 hm).2).2
      exact ⟨fun σ Q s m ad news T q R => (h2 e₁ p pos σ Q s m ad news h1.1 h1.2 T q R).1, fun σ Q s m ad news T q hq R => (h2 e₁ p pos σ Q s m ad news h1.1 h1.2 T q R).2 hq _⟩
  | .ite c a b, C, ok, e, h => by
    obtain ⟨c', a', b', pos, rfl, h⟩ := inv_ite h
    obtain ⟨h1, h⟩ := and2 h
    obtain ⟨h2, h3⟩ := and2 h
    exact sIte ok (sound c C ok _ h1).2 (sound a C ok _ h2).1 (sound b C ok _ h3).1 (sound a C ok _ h2).2 (sound b C ok _ h3).2
  | .call f ps, C, ok, e, h => by
    obtain ⟨x, np, e', args', pos, rfl, h⟩ := inv_call h
    obtain ⟨h1, h2⟩ := and2 h
    exact sBoth (sCall ok (sound f C ok _ h1).1 (sounds ps C ok _ h2) h2) fun _ => rfl
  | .starcall _ _, C, ok, e, h => by cases h
  | .sub p i, C, ok, e, h => by
    obtain ⟨e', i', pos, rfl, h⟩ := inv_sub h
    obtain ⟨h1, h⟩ := and2 h
    obtain ⟨h2, h3⟩ := and2 h
    exact sBoth (sSub ok h1 (sound p C ok _ h2).1 (sound i C ok _ h3).1) fun _ => rfl
  | .slTo p hi, C, ok, e, h => by
    obtain ⟨e', hi', p₁, pos, rfl, h⟩ := inv_slTo h
    obtain ⟨h1, h2⟩ := and2 h
    exact sBoth (sSlTo ok (sound p C ok _ h1).1 (sound hi C ok _ h2).1) fun _ => rfl
  | .slFrom p lo, C, ok, e, h => by
    obtain ⟨e', lo', p₁, pos, rfl, h⟩ := inv_slFrom h
    obtain ⟨h1, h2⟩ := and2 h
    exact sBoth (sSlFrom ok (sound p C ok _ h1).1 (sound lo C ok _ h2).1) fun _ => rfl
  | .slAll _ _ _, C, ok, e, h => by cases h
  | .tuple es, C, ok, e, h => by
    obtain ⟨es', k, pos, rfl, h⟩ := inv_tuple h
    exact sBoth (sTuple ok (sounds es C ok _ h)) fun _ => rfl
  | .list es, C, ok, e, h => by
    obtain ⟨es', pos, rfl, h⟩ := inv_list h
    exact sBoth (sList ok (sounds es C ok _ h)) fun _ => rfl
  | .rep _ _, C, ok, e, h => by cases h
  | .comp elt o caps gl iter ifs, C, ok, e, h => by
    obtain ⟨elt', tgt, iter', ifs', sc, pos, xs, rfl, hx, hset, hsc, hlen, hm1, hm2, hm3⟩ := inv_comp h
    exact sBoth (sComp ok (pos := pos) hset hx hsc (sound iter C ok _ hm1).1 (fun C' ok' hK => (sound elt C' ok' elt' (by rw [hK]; exact hm2)).1) (fun C' ok' hK => soundTs ifs C' ok' ifs' (by rw [hK]; exact hm3) hlen)) fun _ => rfl
theorem sounds : ∀ (ps : PEs) (C : Cx) (ok : CxOK C) (es : List Expr), mEs C.K ps es = true → SoundEs C ps es
  | .nil, C, ok, [], _ => sEsNil ok
  | .nil, _, _, _ :: _, h => by cases h
  | .cons _ _, _, _, [], h => by cases h
  | .cons p ps, C, ok, e :: es, h => by
    exact sEsCons ok (and2 h).1 (sound p C ok e (and2 (and2 h).2).1).1 (sounds ps C ok es (and2 (and2 h).2).2)
theorem soundTs : ∀ (ps : PEs) (C : Cx) (ok : CxOK C) (es : List Expr), mEs C.K ps es = true → es.length ≤ 1 → SoundTs C ps es
  | .nil, C, ok, [], _, _ => sTsNil
  | .nil, _, _, _ :: _, h, _ => by cases h
  | .cons _ _, _, _, [], h, _ => by cases h
  | .cons p .nil, C, ok, [e], h, _ => by
    exact sTsOne (sound p C ok e (and2 (and2 h).2).1).2
  | .cons p .nil, _, _, _ :: _ :: _, h, hl => by simp at hl
  | .cons p (.cons _ _), _, _, _ :: _ :: _, h, hl => by simp at hl
  | .cons p (.cons _ _), _, _, [_], h, hl => by cases (and2 (and2 h).2).2
theorem soundBr : ∀ (ps : PEs) (isAnd : Bool) (C : Cx) (ok : CxOK C) (es : List Expr), mEs C.K ps es = true → SoundBr C isAnd ps es
  | .nil, isAnd, C, ok, [], _ => brNil ok isAnd
  | .nil, _, _, _, _ :: _, h => by cases h
  | .cons _ _, _, _, _, [], h => by cases h
  | .cons p ps, isAnd, C, ok, e :: es, h => by
    have h2 := and2 (and2 h).2
    exact brCons ok isAnd (sound p C ok e h2.1).1 (sound p C ok e h2.1).2 (soundBr ps isAnd C ok es h2.2)
end
end
end Mine
namespace Mine
open PySem PySem.W PySem.Calls PyProof.Rows PyProof.V PySem.Spec

noncomputable def flowIs (C : Cx) (ad : List Addr) (news : Led) : Fl → Flow → Prop
  | .next, .next => True
  | .ret v, .ret cv => RV C.base C.fa ad news v cv
  | _, _ => False
noncomputable def PostS (C : Cx) (Q : Fl → St → Prop) (s : Shared) (ad : List Addr) (news : Led) (f : Flow) (s' : Shared) : Prop :=
  ∃ fl σ' m' ad' news', Q fl σ' ∧ flowIs C ad' news' fl f ∧ Rel C σ' s'.heap m' ad' news' ∧ Le C.fz ad news ad' news' ∧ Rest s s'
theorem PostS.up {C : Cx} {Q : Fl → St → Prop} {s₀ s : Shared} {ad₀ ad : List Addr} {news₀ news : Led} (k : Le C.fz ad₀ news₀ ad news) (r : Rest s₀ s) {f : Flow} {s' : Shared} (h : PostS C Q s ad news f s') : PostS C Q s₀ ad₀ news₀ f s' := by
  obtain ⟨v, σ', m', ad', news', q, rv, R, l, r'⟩ := h
  exact ⟨v, σ', m', ad', news', q, rv, R, k.trans l, r.trans r'⟩

noncomputable def SoundS (C : Cx) (p : PS) (st : Stmt) : Prop := ∀ (σ : St) (Q : Fl → St → Prop) (s : Shared) (m : Str → Option Value) (ad : List Addr) (news : Led),
  0 < s.toks → wpS C.gval C.fns p σ Q → Rel C σ s.heap m ad news → Wp C (exec st C.env) (PostS C Q s ad news) s
noncomputable def SoundSs (C : Cx) (p : PSs) (st : List Stmt) : Prop := ∀ (σ : St) (Q : Fl → St → Prop) (s : Shared) (m : Str → Option Value) (ad : List Addr) (news : Led),
  0 < s.toks → wpSs C.gval C.fns p σ Q → Rel C σ s.heap m ad news → Wp C (execs st C.env) (PostS C Q s ad news) s

section
variable {C : Cx}

theorem may (hoc : C.ownCells = true) (ns : List Nat) : mayStore C ns := fun _ _ _ _ _ => hoc

theorem sAssignN (ok : CxOK C) (hoc : C.ownCells = true) {n : Nat} {x : Str} {p : PE} {e : Expr} {p₁ pos : Pos} (hx : C.K.names[n]? = some x) (hc : rhsOk (.Name x p₁) e = true) (h1 : SoundE C p e) :
    SoundS C (.assign (.name n) p) (.Assign [.Name x p₁] e pos) := by
  intro σ Q s m ad news T q R
  have hs : swapsWith e (some (.Name x p₁)) pos.line C.env = pure false := by cases e <;> first | rfl | cases hc
  refine wpAny_Assign_Name (h1.seq T q R fun cv s₁ v σ₁ m₁ ad₁ news₁ q₁ rv R₁ l₁ r₁ T₁ => store_sound ok hx (fun _ => hoc) R₁ rv fun h' tk m' news' R' l' => ?_) hs
  exact ⟨.next, _, m', ad₁, news', q₁, trivial, R', l₁.trans l', r₁.trans Rest.mk'⟩

theorem Rel.other {σ : St} {h h' : Heap} {m : Str → Option Value} {ad : List Addr} {news : Led} {L : Addr} (R : Rel C σ h m ad news) (hs : Heap.SameBut L h h') (h1 : C.env.locals ≠ L) (h2 : C.base.get? L = none) (h3 : ∀ p ∈ news, p.1 ≠ L) : Rel C σ h' m ad news :=
  ⟨⟨R.F.ns.sameBut hs h1, fun b o e => (hs.2 b (by rintro rfl; rw [h2] at e; cases e)).trans (R.F.keep b o e), R.F.above⟩, fun p hp => ⟨(hs.2 _ (h3 p hp)).trans (R.N p hp).1, (R.N p hp).2⟩, R.M⟩
theorem sAssignT (ok : CxOK C) (hoc : C.ownCells = true) {ns : List Nat} {es : List Expr} {k : Nat} {p : PE} {e : Expr} {p₁ pos : Pos} (hm : mT C.K (.tup ns) (.Tuple es k p₁) = true)
    (hc : rhsOk (.Tuple es k p₁) e = true) (h1 : SoundE C p e) : SoundS C (.assign (.tup ns) p) (.Assign [.Tuple es k p₁] e pos) := by
  intro σ Q s m ad news T q R
  have hs : swapsWithSole [.Tuple es k p₁] e pos.line C.env = pure false := by cases e <;> first | rfl | cases hc
  have hw : swappedStores [.Tuple es k p₁] e C.env = pure none := by cases e <;> first | rfl | cases hc
  refine Assign_Tuple (h1.seq T q R fun cv s₁ v σ₁ m₁ ad₁ news₁ q₁ rv R₁ l₁ r₁ T₁ => bind_sound ok hm (may hoc _) q₁ R₁ rv fun σ' h' tk m' news' q₂ R' l' => ?_) hs hw
  exact ⟨.next, _, m', ad₁, news', q₂, trivial, R', l₁.trans l', r₁.trans Rest.mk'⟩

theorem aug_sound (ok : CxOK C) {op : Operator} {a b : AV} {ca cb : Value} {Q : AV → St → Prop} {σ : St} {s : Shared} {m : Str → Option Value} {ad : List Addr} {news : Led}
    (R : Rel C σ s.heap m ad news) (ra : RV C.base C.fa ad news a ca) (rb : RV C.base C.fa ad news b cb) (q : augW op a b σ Q) : Wp C (inplaceOp op ca cb) (PostV C Q s ad news) s := by
  unfold augW at q
  split at q <;> first | exact False.elim q | skip
  · cases ra; cases rb
    exact wpAny_iadd_int (PostV.here R q (.int _ _))
theorem sAug (ok : CxOK C) (hoc : C.ownCells = true) {n : Nat} {x : Str} {op : Operator} {p : PE} {e : Expr} {p₁ pos : Pos} (hx : C.K.names[n]? = some x) (h1 : SoundE C p e) :
    SoundS C (.aug n op p) (.AugAssign (.Name x p₁) op e pos) := by
  intro σ Q s m ad news T q R
  obtain ⟨v, hv, q⟩ := q
  obtain ⟨x', cv, g1, g2, g3⟩ := R.M.loc n v hv
  rw [hx] at g1
  cases g1
  refine wpAny_AugAssign_Name (load_sound ok (List.mem_of_getElem? hx) R g2 ?_)
  refine h1.seq T q R fun cu s₁ u σ₁ m₁ ad₁ news₁ q₁ ru R₁ l₁ r₁ T₁ => ?_
  refine wpAny_mono (aug_sound ok R₁ (g3.le l₁) ru q₁) (fun cw s₂ hp => ?_) fun _ _ h => h
  obtain ⟨w, σ₂, m₂, ad₂, news₂, q₂, rw, R₂, l₂, r₂⟩ := hp
  refine store_sound ok hx (fun _ => hoc) R₂ rw fun h' tk m' news' R' l' => ?_
  exact ⟨.next, _, m', ad₂, news', q₂, trivial, R', (l₁.trans l₂).trans l', (r₁.trans r₂).trans Rest.mk'⟩

theorem sAugSub (ok : CxOK C) {p i q : PE} {o' i' e' : Expr} {op : Operator} {p₁ pos : Pos} (hns : notSlice i' = true) (h1 : SoundE C p o') (h2 : SoundE C i i') (h3 : SoundE C q e') : SoundS C (.augSub p i op q) (.AugAssign (.Subscript o' i' p₁) op e' pos) := by
  intro σ Q s m ad news T qq R
  refine wpAny_AugAssign_SubscriptAny (h1.seq T qq R fun cv s₁ v σ₁ m₁ ad₁ news₁ q₁ rv R₁ l₁ r₁ T₁ => ?_) (by intro _ _ _; cases i' <;> first | rfl | cases hns)
  obtain ⟨j, rfl, q₁⟩ := q₁
  refine h2.seq T₁ q₁ R₁ fun ci s₂ u σ₂ m₂ ad₂ news₂ q₂ ri R₂ l₂ r₂ T₂ => ?_
  obtain ⟨k, l, x, ⟨rfl, k0, k1⟩, ⟨hl, hx⟩, rfl, q₂⟩ := q₂
  cases rv with | lst _ D hD =>
  cases ri with | int _ t =>
  have hD₂ := l₂.pre j D hD
  obtain ⟨items, L, rs⟩ := isList R₂ hl hD₂
  obtain ⟨cx, hcx, rx⟩ := rs.get _ _ hx
  refine wpAny_getItem_list L k0 k1 (by simpa using hcx) ?_
  cases rx with | int _ tx =>
  refine h3.seq T₂ q₂ R₂ fun cw s₃ w σ₃ m₃ ad₃ news₃ q₃ rw R₃ l₃ r₃ T₃ => ?_
  obtain ⟨y, l', rfl, ⟨hl', oj, hk⟩, q₃⟩ := q₃
  cases rw with | int _ ty =>
  refine wpAny_iadd_int ?_
  have hD₃ := l₃.pre j D hD₂
  obtain ⟨a₂, o₂, e2, ⟨m2, its₂, n₂, rfl⟩, f2⟩ := R₃.M.own j oj
  rw [hD₃] at e2; cases e2
  obtain ⟨i2, L2, r2⟩ := isList R₃ hl' hD₃
  have g2 := (R₃.N _ m2).1
  have same : its₂ = i2 := by
    obtain ⟨o, h3, _, n', h4⟩ := L2
    rw [g2] at h3
    cases h3
    simpa using (Data.seq.inj h4).1
  subst same
  refine set_at (s := { s₃ with toks := s₃.toks + 1 }) g2 k0 k1 (by rw [List.size_toArray, ← r2.length]; exact hk) fun h' hs hg => ?_
  rw [List.setIfInBounds_toArray] at hg
  refine ⟨.next, _, m₃, ad₃, _, q₃, trivial, R₃.update (o' := lstObj (its₂.set k.toNat (.int (x + y) s₃.toks)) n₂) hD₃ ⟨_, _, m2, rfl, _, rfl⟩ ⟨_, rfl⟩ hs hg (r2.set _ (.int _ _)), ((l₁.trans l₂).trans l₃).trans (update_Le f2 fun o ho => ?_), ((r₁.trans r₂).trans r₃).trans Rest.mk'⟩
  have := (R₃.N _ ho).1
  rw [g2] at this
  cases this
  rfl
theorem sRet (ok : CxOK C) {p : PE} {e : Expr} {pos : Pos} (h1 : SoundE C p e) : SoundS C (.ret p) (.Return (some e) pos) := by
  intro σ Q s m ad news T q R
  refine wpAny_Return_some (h1.seq T q R fun cv s₁ v σ₁ m₁ ad₁ news₁ q₁ rv R₁ l₁ r₁ T₁ => ?_)
  exact ⟨.ret v, σ₁, m₁, ad₁, news₁, q₁, rv, R₁, l₁, r₁⟩

theorem sIf (ok : CxOK C) {c : PE} {a b : PSs} {c' : Expr} {a' b' : List Stmt} {pos : Pos} (h1 : SoundT C c c') (h2 : SoundSs C a a') (h3 : SoundSs C b b') : SoundS C (.ifs c a b) (.If c' a' b' pos) := by
  intro σ Q s m ad news T q R
  refine wpAny_If (h1.seq T q (fun v σ' h => by obtain ⟨b, hb, _⟩ := truthW_iff.mp h; exact ⟨b, hb⟩) R fun t s₁ v σ₁ m₁ ad₁ news₁ ht q₁ R₁ l₁ r₁ T₁ => ?_)
  obtain ⟨t', hb, q₁⟩ := truthW_iff.mp q₁
  rw [ht] at hb
  cases hb
  cases t
  · exact wpAny_mono (h3 _ _ _ _ _ _ T₁ (q₁.2 rfl) R₁) (fun _ _ x => x.up l₁ r₁) fun _ _ x => x
  · exact wpAny_mono (h2 _ _ _ _ _ _ T₁ (q₁.1 rfl) R₁) (fun _ _ x => x.up l₁ r₁) fun _ _ x => x

theorem RelM.sub {σ : St} {m : Str → Option Value} {ad : List Addr} {news news' : Led} (R : RelM C σ m ad news) (k : ∀ a o, (a, o) ∈ news → good o → (a, o) ∈ news') : RelM C σ m ad news' := by
  have hl : ∀ o its, IsL o its → good o := fun o its h => .inr (.inl h.1)
  have hk : ∀ a o, Held C.base news a o → good o → Held C.base news' a o := fun a o x g => x.elim (fun y => .inl (k a o y g)) .inr
  have lt : LeT ad news ad news' := ⟨fun _ _ h => h, fun a o hm hc => k a o hm (hc.elim .inl fun h => .inr (.inr (.inl h)))⟩
  refine ⟨fun n v hv => ?_, R.len, fun i l hl' => ?_, fun i hi => ?_, R.inj, fun a ha => ?_, fun hc x hx => ?_⟩
  · obtain ⟨x, cv, e1, e2, e3⟩ := R.loc n v hv
    refine ⟨x, cv, e1, ?_, e3.leT lt⟩
    unfold VarAt at e2 ⊢
    split
    · rename_i hx
      rw [if_pos hx] at e2
      obtain ⟨c, o, f1, f2, f3⟩ := e2
      exact ⟨c, o, f1, hk _ _ f2 (.inr (.inr (.inr ⟨_, f3⟩))), f3⟩
    · rename_i hx
      rw [if_neg hx] at e2
      exact e2
  · obtain ⟨a, its, o, e1, e2, e3⟩ := R.obj i l hl'
    exact ⟨a, its, o, e1, ⟨hk _ _ e2.1 (hl _ _ e2.2), e2.2⟩, e3.leT lt⟩
  · obtain ⟨a, o, e1, e2, e3⟩ := R.own i hi
    obtain ⟨its, hi'⟩ := e2.2
    exact ⟨a, o, e1, ⟨k _ _ e2.1 (hl _ _ hi'.toL), its, hi'⟩, e3⟩
  · obtain ⟨o, e1, its, e2⟩ := R.fzin a ha
    exact ⟨o, hk _ _ e1 (hl _ _ e2), its, e2⟩
  · obtain ⟨c, o, e1, e2, e3⟩ := R.cells hc x hx
    exact ⟨c, o, e1, k _ _ e2 (.inr (.inr (.inr e3))), e3⟩

theorem for_rule {prog : Program} {w : World} {A : Around} {R : Result → Shared → Prop} {s : Shared} {target : Expr} {it : Value} {body : List Stmt} {env : Env} (I : Nat → Shared → Prop)
    (turn : ∀ n s, I n s → wpAny (model prog w) A (pyNext it) (fun r s₁ => match r with
      | none => R (.ok .next) s₁
      | some v => wpAny (model prog w) A (letOwnedTupleGo target it v) (fun _ s₁' => wpAny (model prog w) A (assign target env v) (fun _ s₂ => wpAny (model prog w) A (execs body env) (fun f s₃ => match f with
            | .next | .cont => ∃ m, m < n ∧ I m s₃
            | .brk => R (.ok .next) s₃
            | .ret v => R (.ok (.ret v)) s₃) NoE s₂) NoE s₁') NoE s₁) NoE s)
    (n : Nat) (h : I n s) : codeAny (model prog w) A (.forLoop target it body [] env) R s := by
  have no : ∀ {E : Value → Shared → Prop} (a : Value) (b : Shared), NoE a b → E a b := fun _ _ x => x.elim
  refine codeAny_forLoop_any I (fun n s hI => wpAny_mono (turn n s hI) (fun r s₁ h₁ => ?_) no) n h
  cases r with
  | none => exact wpAny_pure h₁
  | some v => exact wpAny_mono h₁ (fun _ _ h₂ => wpAny_mono h₂ (fun _ _ h₃ => wpAny_mono h₃ (fun _ _ x => x) no) no) no

theorem fsOf_pre {v : AV} {ad ad' fs : List Addr} (pre : ∀ (i : Nat) (a : Addr), ad[i]? = some a → ad'[i]? = some a) (hf : fsOf v ad fs) : fsOf v ad' fs := by
  rcases hf with ⟨j, ax, rfl, ha, rfl⟩ | ⟨hn, rfl⟩
  · exact .inl ⟨j, ax, rfl, pre _ _ ha, rfl⟩
  · exact .inr ⟨hn, rfl⟩
theorem fsOf_get {v : AV} {ad fs : List Addr} {objs : List (List AV)} (hlen : ad.length = objs.length) (hf : fsOf v ad fs) (j : Nat) (e : v = .lst j) : ∃ l, objs[j]? = some l := by
  subst e
  rcases hf with ⟨j', ax, e, ha, _⟩ | ⟨hn, _⟩
  · cases e
    have := (List.getElem?_eq_some_iff.mp ha).1
    rw [hlen] at this
    exact ⟨_, List.getElem?_eq_getElem this⟩
  · exact absurd rfl (hn j)
noncomputable def ForInv (C : Cx) (J : Nat → St → Prop) (St : Nat → Heap → Prop) (I : Addr) (fs ad : List Addr) (news : Led) (len : Nat) (s : Shared) (k : Nat) (s' : Shared) : Prop :=
  ∃ i σ' h tk m' ad' news', (k = len - i ∧ i ≤ len) ∧ (s' = { s with heap := h, toks := tk } ∧ 0 < tk) ∧ J i σ' ∧ Rel C σ' h m' ad' news' ∧ (∀ p ∈ news', p.1 ≠ I) ∧ St i h ∧ Le (fs ++ C.fz) ad news ad' news'
theorem for_next {s : Shared} {ad : List Addr} {news : Led} {items : List AV} {J : Nat → St → Prop} {St : Nat → Heap → Prop} {P : Nat → Value → Prop} {I : Addr} {fp fs : List Addr} {i : Nat} {ad' ad₃ : List Addr} {news' news₃ : Led} {oI : Obj} {h' h₃ : Heap} {tk₃ : Nat} {σ₃ : Mine.St} {m' m₃ : Str → Option Value}
    (it : Iter C items ad news I fp fs P St) (hlt : i < items.length) (hnI : ∀ p ∈ news, p.1 ≠ I) (l' : Le (fs ++ C.fz) ad news ad' news') (hst' : St (i + 1) h') (eI : h'.get? I = some oI) (hngI : ¬ good oI) (F' : Fr C.base C.env.locals h' m') (N' : News C.base C.env.locals h' news')
    (lT : Le (fs ++ C.fz) ad' news' ad₃ news₃) (hI₃ : (I, oI) ∈ news₃) (F₃ : Fr C.base C.env.locals h₃ m₃) (N₃ : News C.base C.env.locals h₃ news₃) (M₃ : RelM C σ₃ m₃ ad₃ news₃) (q₃ : J (i + 1) σ₃) (T : 0 < tk₃) :
    ∃ m, m < items.length - i ∧ ForInv C J St I fs ad news items.length s m { s with heap := h₃, toks := tk₃ } := by
  refine ⟨items.length - (i + 1), Nat.sub_lt_sub_left hlt (Nat.lt_succ_self i), i + 1, _, h₃, tk₃, m₃, ad₃, news₃.filter fun p => p.1 != I, ⟨rfl, hlt⟩, ⟨rfl, T⟩, q₃, ⟨F₃, fun p hp => N₃ p (List.mem_filter.mp hp).1, M₃.sub (sub_filter N₃ hI₃ hngI)⟩, ?_, ?_, ?_⟩
  · intro p hp
    simpa using (List.mem_filter.mp hp).2
  · refine it.W.frame _ _ _ hst' fun b hb o' e => ?_
    rcases it.fpIn b hb with rfl | ⟨o₂, hh, hk2⟩
    · rw [eI] at e
      cases e
      exact (N₃ _ hI₃).1
    · rcases hh with hh | hh
      · have g1 := l'.keep _ _ hh (hk2.elim (fun h => .inl (List.mem_append_left _ h)) .inr)
        have g2 := (N' _ g1).1
        rw [e] at g2
        cases g2
        exact (N₃ _ (lT.keep _ _ g1 (hk2.elim (fun h => .inl (List.mem_append_left _ h)) .inr))).1
      · have g2 := F'.keep _ _ hh
        rw [e] at g2
        cases g2
        exact F₃.keep _ _ hh
  · refine ⟨fun i a h => lT.pre i a (l'.pre i a h), fun a o' hm hk => List.mem_filter.mpr ⟨lT.keep _ _ (l'.keep _ _ hm hk) hk, ?_⟩⟩
    simp only [bne_iff_ne, ne_eq]
    exact hnI _ hm
theorem sFor (ok : CxOK C) (hoc : C.ownCells = true) {t : Tgt} {t' : Expr} {p : PE} {e : Expr} {ps : PSs} {body : List Stmt} {pos : Pos} (hm : mT C.K t t' = true) (hset : notSet e = true) (h1 : SoundE C p e)
    (hb : ∀ fz, SoundSs { C with fz := fz } ps body) : SoundS C (.for_ t p ps) (.For t' e body [] pos) := by
  intro σ Q s m ad news T q R
  have hs : ∀ v, foldedSetIterable e C.env v = pure v := by intro v; cases e <;> first | rfl | cases hset
  refine wpAny_For (h1.seq T q R fun cv s₁ v σ₁ m₁ ad₁ news₁ q₁ rv R₁ l₁ r₁ T₁ => ?_) hs
  refine iter_sound ok q₁ R₁ rv fun items io fp fs P St hk it hf hst hfp => ?_
  obtain ⟨J, j0, jt, jd⟩ := hk
  generalize hI : s₁.heap.objs.size = I at *
  have fresh : C.base.get? I = none := by
    cases e : C.base.get? I with
    | none => rfl
    | some o' => exact absurd (Heap.lt_size (R₁.F.keep _ _ e)) (by rw [hI]; exact Nat.lt_irrefl _)
  have hnI : ∀ p ∈ news₁, p.1 ≠ I := fun p hp e => by
    have := Heap.lt_size (R₁.N p hp).1
    rw [hI, e] at this
    exact Nat.lt_irrefl _ this
  have hIL : I ≠ C.env.locals := by
    obtain ⟨o, _, _, e, _⟩ := R₁.F.ns
    have := Heap.lt_size e
    rw [hI] at this
    exact Nat.ne_of_gt this
  have no : ∀ {E : Value → Shared → Prop} (a : Value) (b : Shared), NoE a b → E a b := fun _ _ x => x.elim
  refine for_rule (ForInv C J St I fs ad₁ news₁ items.length s₁) ?_ items.length ?_
  · rintro k s' ⟨i, σ', h, tk, m', ad', news', ⟨rfl, hi⟩, ⟨rfl, T⟩, hj, R', hn', hsti, l'⟩
    have lC : Le C.fz ad₁ news₁ ad' news' := ⟨l'.pre, fun a o hm hk => l'.keep a o hm (hk.elim (fun h => .inl (List.mem_append_right _ h)) .inr)⟩
    by_cases hlast : i = items.length
    · subst hlast
      refine it.W.done _ _ _ hsti fun h' tk' hk => ?_
      obtain ⟨F', N'⟩ := keep_it R'.F R'.N fresh hIL hn' hk
      exact ⟨.next, σ', m', ad', news', jd _ hj, trivial, ⟨F', N', R'.M⟩, l₁.trans lC, r₁.trans Rest.mk'⟩
    · have hlt : i < items.length := by omega
      refine withT (C := C) T (it.W.item i _ _ _ hlt hsti fun cu h' tk' hP hst' hk T' => ?_)
      obtain ⟨F', N'⟩ := keep_it R'.F R'.N fresh hIL hn' hk
      have pI := it.plain _ _ hst'
      obtain ⟨oI, eI, hngI⟩ := it_bad pI
      have hkI := bad_keep hngI
      have hf' := fsOf_pre l'.pre hf
      have hl' := fsOf_get R'.M.len hf'
      have R1 : Rel { C with fz := fs ++ C.fz } { σ' with own := frozen v σ'.own } h' m' ad' ((I, oI) :: news') :=
        ⟨F', fun p hp => by
          rcases List.mem_cons.mp hp with rfl | hp
          · exact ⟨eI, hIL, fresh⟩
          · exact N' p hp, (RelM.freeze R'.M (cv := cv) hf' hl').mono fun _ h => .tail _ h⟩
      obtain ⟨u, hu, rvu⟩ := it.item i cu hP hlt
      have rvu' : RV C.base C.fa ad' ((I, oI) :: news') u cu := (rvu.le l').le (fz := []) (.all (fun _ _ h => h) fun _ h => .tail _ h)
      refine letOwned pI ?_
      refine withT (C := C) T' (bind_sound (C := { C with fz := fs ++ C.fz }) (s := { s₁ with heap := h', toks := tk' }) (ok.fz _) hm (may hoc _) (jt i u σ' hu hj) R1 rvu' fun σ₂ h₂ tk₂ m₂ news₂ q₂ R₂ l₂ T₂ => ?_)
      refine wpAny_mono (wpAny_toks (hb (fs ++ C.fz) σ₂ _ { s₁ with heap := h₂, toks := tk₂ } m₂ ad' news₂ T₂ q₂ R₂)) (fun f s₃ hp => ?_) (fun a b x => no a b x.2)
      obtain ⟨ht₃, fl, σ₃, m₃, ad₃, news₃, q₃, hfl, R₃, l₃, ⟨h₃, tk₃, rfl⟩⟩ := hp
      have lT : Le (fs ++ C.fz) ad' news' ad₃ news₃ := (Le.cons.trans l₂).trans l₃
      have lT' : Le C.fz ad' news' ad₃ news₃ := ⟨lT.pre, fun a o hm hk => lT.keep a o hm (hk.elim (fun h => .inl (List.mem_append_right _ h)) .inr)⟩
      have M₃ : RelM C { σ₃ with own := thawed v σ'.own σ₃.own } m₃ ad₃ news₃ := RelM.thaw R₃.M hf' R'.M lT
      cases fl with
      | ret u =>
        cases f with
        | ret cv => exact ⟨.ret u, _, m₃, ad₃, news₃, q₃, hfl, ⟨R₃.F, R₃.N, M₃⟩, (l₁.trans lC).trans lT', r₁.trans Rest.mk'⟩
        | _ => cases hfl
      | next =>
        cases f with
        | next =>
          have hI₃ : (I, oI) ∈ news₃ := l₃.keep _ _ (l₂.keep _ _ (.head _) (.inr hkI)) (.inr hkI)
          exact for_next it hlt hnI l' hst' eI hngI F' N' lT hI₃ R₃.F R₃.N M₃ q₃ (Nat.lt_of_lt_of_le T₂ ht₃)
        | _ => cases hfl
  · exact ⟨0, σ₁, _, s₁.toks, m₁, ad₁, news₁, ⟨rfl, Nat.zero_le _⟩, ⟨rfl, T₁⟩, j0, ⟨R₁.F.push _, R₁.N.grown fun _ _ e => Heap.get?_push_of_some _ e, R₁.M⟩, hnI, hst, Le.refl⟩

theorem sSsNil : SoundSs C .nil [] := by
  intro σ Q s m ad news T q R
  exact wpAny_execs_nil ⟨.next, σ, m, ad, news, q, trivial, R, Le.refl, Rest.refl⟩
theorem sSsCons {p : PS} {st : Stmt} {ps : PSs} {sts : List Stmt} (h1 : SoundS C p st) (h2 : SoundSs C ps sts) : SoundSs C (.cons p ps) (st :: sts) := by
  intro σ Q s m ad news T q R
  refine wpAny_execs_cons (wpAny_mono (wpAny_toks (h1 σ _ s m ad news T q R)) (fun f s₁ hp => ?_) fun _ _ x => x.2)
  obtain ⟨ht, fl, σ₁, m₁, ad₁, news₁, q₁, hf, R₁, l₁, r₁⟩ := hp
  cases fl with
  | next =>
    cases f with
    | next => exact wpAny_mono (h2 σ₁ _ s₁ m₁ ad₁ news₁ (Nat.lt_of_lt_of_le T ht) q₁ R₁) (fun _ _ x => x.up l₁ r₁) fun _ _ x => x
    | _ => cases hf
  | ret v =>
    cases f with
    | ret cv => exact ⟨.ret v, σ₁, m₁, ad₁, news₁, q₁, hf, R₁, l₁, r₁⟩
    | _ => cases hf

noncomputable def Wassign (K : Keys) (st : Stmt) (t : Tgt) (e : PE) : Prop := ∃ t' e' pos, st = .Assign [t'] e' pos ∧ (mT K t t' && ((rhsOk t' e' || swapOk K t' e') && mE K e e')) = true
theorem inv_assign {K : Keys} {st : Stmt} {t : Tgt} {e : PE} (h : mS K (.assign t e) st = true) : Wassign K st t e := by
  cases st <;> first | exact (Bool.false_ne_true h).elim | skip
  rename_i ts e' pos
  match ts, h with
  | [t'], h => exact ⟨_, _, _, rfl, h⟩
noncomputable def Waug (K : Keys) (st : Stmt) (n : Nat) (op : Operator) (e : PE) : Prop := ∃ x p₁ op' e' pos, st = .AugAssign (.Name x p₁) op' e' pos ∧ (K.names[n]? == some x && (op == op' && mE K e e')) = true
theorem inv_aug {K : Keys} {st : Stmt} {n : Nat} {op : Operator} {e : PE} (h : mS K (.aug n op e) st = true) : Waug K st n op e := by
  cases st <;> first | exact (Bool.false_ne_true h).elim | skip
  rename_i t' op' e' pos
  cases t' <;> first | exact (Bool.false_ne_true h).elim | exact ⟨_, _, _, _, _, rfl, h⟩
noncomputable def WaugSub (K : Keys) (st : Stmt) (o i : PE) (op : Operator) (e : PE) : Prop := ∃ o' i' p₁ op' e' pos, st = .AugAssign (.Subscript o' i' p₁) op' e' pos ∧ (notSlice i' && (op == op' && (mE K o o' && (mE K i i' && mE K e e')))) = true
theorem inv_augSub {K : Keys} {st : Stmt} {o i : PE} {op : Operator} {e : PE} (h : mS K (.augSub o i op e) st = true) : WaugSub K st o i op e := by
  cases st <;> first | exact (Bool.false_ne_true h).elim | skip
  rename_i t' op' e' pos
  cases t' <;> first | exact (Bool.false_ne_true h).elim | exact ⟨_, _, _, _, _, _, rfl, h⟩
noncomputable def Wifs (K : Keys) (st : Stmt) (c : PE) (a b : PSs) : Prop := ∃ c' a' b' pos, st = .If c' a' b' pos ∧ (mE K c c' && (mSs K a a' && mSs K b b')) = true
theorem inv_ifs {K : Keys} {st : Stmt} {c : PE} {a b : PSs} (h : mS K (.ifs c a b) st = true) : Wifs K st c a b := by
  cases st <;> first | exact (Bool.false_ne_true h).elim | exact ⟨_, _, _, _, rfl, h⟩
noncomputable def Wfor (K : Keys) (st : Stmt) (t : Tgt) (it : PE) (body : PSs) : Prop := ∃ t' it' body' pos, st = .For t' it' body' [] pos ∧ (mT K t t' && (notSet it' && (mE K it it' && mSs K body body'))) = true
theorem inv_for {K : Keys} {st : Stmt} {t : Tgt} {it : PE} {body : PSs} (h : mS K (.for_ t it body) st = true) : Wfor K st t it body := by
  cases st <;> first | exact (Bool.false_ne_true h).elim | skip
  rename_i t' it' body' els pos
  cases els with
  | cons _ _ => exact (Bool.false_ne_true h).elim
  | nil => exact ⟨_, _, _, _, rfl, h⟩
noncomputable def Wret (K : Keys) (st : Stmt) (e : PE) : Prop := ∃ e' pos, st = .Return (some e') pos ∧ mE K e e' = true
theorem inv_ret {K : Keys} {st : Stmt} {e : PE} (h : mS K (.ret e) st = true) : Wret K st e := by
  cases st <;> first | exact (Bool.false_ne_true h).elim | skip
  rename_i v pos
  cases v with
  | none => exact (Bool.false_ne_true h).elim
  | some e' => exact ⟨_, _, rfl, h⟩
noncomputable def Wname (K : Keys) (n : Nat) (t' : Expr) : Prop := ∃ x p₁, t' = .Name x p₁ ∧ (K.names[n]? == some x) = true
theorem inv_tn {K : Keys} {n : Nat} {t' : Expr} (h : mT K (.name n) t' = true) : Wname K n t' := by
  cases t' <;> first | exact (Bool.false_ne_true h).elim | exact ⟨_, _, rfl, h⟩
noncomputable def Wtup (K : Keys) (ns : List Nat) (t' : Expr) : Prop := ∃ es k p₁, t' = .Tuple es k p₁ ∧ mT K (.tup ns) (.Tuple es k p₁) = true
theorem inv_tt {K : Keys} {ns : List Nat} {t' : Expr} (h : mT K (.tup ns) t' = true) : Wtup K ns t' := by
  cases t' <;> first | exact (Bool.false_ne_true h).elim | exact ⟨_, _, _, rfl, h⟩
mutual
theorem soundS : ∀ (p : PS) (C : Cx) (ok : CxOK C) (hoc : C.ownCells = true) (st : Stmt), mS C.K p st = true → SoundS C p st
  | .assign t e, C, ok, hoc, st, h => by
    obtain ⟨t', e', pos, rfl, h⟩ := inv_assign h
    obtain ⟨h1, h⟩ := and2 h
    obtain ⟨h2, h3⟩ := and2 h
    cases t with
    | name n =>
      obtain ⟨x, p₁, rfl, hx⟩ := inv_tn h1
      by_cases hr : rhsOk (.Name x p₁) e' = true
      · exact sAssignN ok hoc (eq_of_beq hx) hr (sound e C ok _ h3).1
      · rw [Bool.not_eq_true] at hr
        rw [hr, Bool.false_or] at h2
        exact (Bool.false_ne_true h2).elim
    | tup ns =>
      obtain ⟨es, k, p₁, rfl, hx⟩ := inv_tt h1
      have hr : rhsOk (.Tuple es k p₁) e' = true := by
        have : swapOk C.K (.Tuple es k p₁) e' = false := rfl
        rw [this, Bool.or_false] at h2
        exact h2
      exact sAssignT ok hoc hx hr (sound e C ok _ h3).1
  | .aug n op e, C, ok, hoc, st, h => by
    obtain ⟨x, p₁, op', e', pos, rfl, h⟩ := inv_aug h
    obtain ⟨hx, h⟩ := and2 h
    obtain ⟨ho, he⟩ := and2 h
    have hs := (sound e C ok _ he).1
    have ho' := eq_of_beq ho
    subst ho'
    exact sAug ok hoc (eq_of_beq hx) hs
  | .augSub o i op e, C, ok, hoc, st, h => by
    obtain ⟨o', i', p₁, op', e', pos, rfl, h⟩ := inv_augSub h
    obtain ⟨hn, h⟩ := and2 h
    obtain ⟨ho, h⟩ := and2 h
    obtain ⟨h1, h⟩ := and2 h
    obtain ⟨h2, h3⟩ := and2 h
    have ho' := eq_of_beq ho
    subst ho'
    exact sAugSub ok hn (sound o C ok _ h1).1 (sound i C ok _ h2).1 (sound e C ok _ h3).1
  | .append _ _, C, ok, hoc, st, h => by cases h
  | .ifs c a b, C, ok, hoc, st, h => by
    obtain ⟨c', a', b', pos, rfl, h⟩ := inv_ifs h
    obtain ⟨h1, h⟩ := and2 h
    obtain ⟨h2, h3⟩ := and2 h
    exact sIf ok (sound c C ok _ h1).2 (soundSs a C ok hoc _ h2) (soundSs b C ok hoc _ h3)
  | .for_ t it body, C, ok, hoc, st, h => by
    obtain ⟨t', it', body', pos, rfl, h⟩ := inv_for h
    obtain ⟨h1, h⟩ := and2 h
    obtain ⟨h2, h⟩ := and2 h
    obtain ⟨h3, h4⟩ := and2 h
    exact sFor ok hoc h1 h2 (sound it C ok _ h3).1 fun fz => soundSs body { C with fz := fz } (ok.fz fz) hoc _ h4
  | .ret e, C, ok, hoc, st, h => by
    obtain ⟨e', pos, rfl, h⟩ := inv_ret h
    exact sRet ok (sound e C ok _ h).1
theorem soundSs : ∀ (ps : PSs) (C : Cx) (ok : CxOK C) (hoc : C.ownCells = true) (sts : List Stmt), mSs C.K ps sts = true → SoundSs C ps sts
  | .nil, C, ok, hoc, [], _ => sSsNil
  | .nil, _, _, _, _ :: _, h => by cases h
  | .cons _ _, _, _, _, [], h => by cases h
  | .cons p ps, C, ok, hoc, st :: sts, h => by
    exact sSsCons (soundS p C ok hoc st (and2 h).1) (soundSs ps C ok hoc sts (and2 h).2)
end
end
end Mine
namespace Mine
open PySem PySem.W PySem.Calls PyProof.Rows PyProof.V PySem.Spec

structure PF where
  prog : Program
  w : World
  p : Program
  loose : List Str
  mean : ExcName → Option Value
  mg : Str → Option Value
  mb : Str → Option Value

structure FrameOf (P : PF) (C : Cx) (room : Nat) : Prop where
  prog : C.prog = P.prog
  w : C.w = P.w
  mg : C.mg = P.mg
  mb : C.mb = P.mb
  top : Top P.p P.loose P.mean P.mg P.mb C.base
  nb : NoneBooked C.base
  depth : C.A.depth + room < recursionLimit
  hh : C.A.handled = none
  units : C.A.units + 3 * room + 64 < cLine
  keep : ∀ b o, C.fa.top.get? b = some o → C.base.get? b = some o
  eg : C.env.globals = mainGlobals
  eb : C.env.builtins = builtinsNs
  kind : C.env.scope.kind = .function

theorem FrameOf.fz {P : PF} {C : Cx} {room : Nat} (Fo : FrameOf P C room) (f : List Addr) : FrameOf P { C with fz := f } room :=
  ⟨Fo.prog, Fo.w, Fo.mg, Fo.mb, Fo.top, Fo.nb, Fo.depth, Fo.hh, Fo.units, Fo.keep, Fo.eg, Fo.eb, Fo.kind⟩
structure GOK (P : PF) (fa : FA) (globs : List Str) (gval : Nat → Option AV) : Prop where
  ok : ∀ (j : Nat) (x : Str) (v : AV), globs[j]? = some x → gval j = some v → (x == ("__debug__" : Str)) = false ∧ ∃ cv, GV fa v cv ∧ (P.mg x = some cv ∨ (P.mg x = none ∧ P.mb x = some cv))

structure CellsOk (K : Keys) (names : List (Str × NameKind)) : Prop where
  at_ : ∀ x ∈ K.cells, x ∈ (cellsFrom 0 names []).map (·.1)
  nd : ((cellsFrom 0 names []).map (·.1)).Nodup

theorem mem_lookup {α : Type} {x : Str} : ∀ {l : List (Str × α)}, x ∈ l.map (·.1) → ∃ c, l.lookup x = some c
  | [], h => by cases h
  | (n, c) :: r, h => by
    simp only [List.lookup_cons]
    cases hx : x == n with
    | true => exact ⟨c, rfl⟩
    | false =>
      rcases List.mem_cons.mp h with h | h
      · rw [h] at hx; simp at hx
      · exact mem_lookup h

theorem bindL_eq (kindOf : Str → Option NameKind) : ∀ (binds : List (Str × Value)) (m : Str → Option Value) (x : Str), (∀ p ∈ binds, kindOf p.1 = some .local) → ∀ v, binds.reverse.lookup x = some v → bindL kindOf binds m x = some v := by
  have key : ∀ (binds : List (Str × Value)) (m : Str → Option Value) (x : Str), (∀ p ∈ binds, kindOf p.1 = some .local) → bindL kindOf binds m x = (binds.reverse.lookup x).or (m x) := by
    intro binds
    induction binds with
    | nil => intro m x _; simp [bindL]
    | cons p r ih =>
      obtain ⟨n, v⟩ := p
      intro m x h
      have hn : kindOf n = some .local := h (n, v) (.head _)
      simp only [bindL, hn, if_true]
      rw [ih _ _ fun p hp => h p (.tail _ hp)]
      simp only [List.reverse_cons, List.lookup_append]
      cases (r.reverse.lookup x) with
      | some u => simp
      | none =>
        by_cases hx : x = n
        · subst hx; simp [List.lookup_cons]
        · have : (x == n) = false := by simpa using hx
          simp [List.lookup_cons, hx, this]
  intro binds m x h v hv
  rw [key binds m x h, hv]
  rfl

theorem zip_lookup {names : List Str} {vals : List Value} (nd : names.Nodup) {n : Nat} {x : Str} {v : Value} (hx : names[n]? = some x) (hv : vals[n]? = some v) : (names.zip vals).reverse.lookup x = some v := by
  have hz : (names.zip vals)[n]? = some (x, v) := by rw [List.getElem?_zip_eq_some]; exact ⟨hx, hv⟩
  have hn := (List.getElem?_eq_some_iff.mp hz).1
  have hsplit : names.zip vals = (names.zip vals).take n ++ (x, v) :: (names.zip vals).drop (n + 1) := by
    have h1 := List.take_append_drop n (names.zip vals)
    rw [List.drop_eq_getElem_cons hn] at h1
    rw [(List.getElem?_eq_some_iff.mp hz).2] at h1
    exact h1.symm
  rw [hsplit, List.reverse_append, List.reverse_cons, List.append_assoc]
  refine List.lookup_eq_some_iff.mpr ⟨_, _, rfl, fun p hp => ?_⟩
  have hp' := List.mem_reverse.mp hp
  obtain ⟨k, hk⟩ := List.mem_iff_getElem?.mp hp'
  rw [List.getElem?_drop] at hk
  obtain ⟨h1, h2⟩ := List.getElem?_zip_eq_some.mp (show (names.zip vals)[n + 1 + k]? = some (p.1, p.2) from hk)
  simp only [bne_iff_ne, ne_eq]
  intro e
  rw [← e] at h1
  have := nodup_inj nd h1 hx
  omega

theorem cells_mem {cm : Str → Option Value} : ∀ {cs : List (Str × Addr)} {cells : List (Addr × Obj)}, CellsAre cm cs cells → ∀ n c, (n, c) ∈ cs → ∃ o, (c, o) ∈ cells ∧ o.data = .cell (cm n)
  | _, _, .nil, n, c, h => by cases h
  | _, _, .cons hd r, n, c, h => by
    rcases List.mem_cons.mp h with e | h
    · cases e
      exact ⟨_, .head _, hd⟩
    · obtain ⟨o, h1, h2⟩ := cells_mem r n c h
      exact ⟨o, .tail _ h1, h2⟩

noncomputable def fnW (g : Nat → Option AV) (fns : Fns) (np : Nat) (ps : PSs) (args : List AV) (objs : List (List AV)) (Q : AV → List (List AV) → Prop) : Prop :=
  args.length = np ∧ wpSs g fns ps ⟨fun i => args[i]?, objs, []⟩ fun fl σ => match fl with | .ret v => Q v σ.objs | .next => Q .none σ.objs

structure DefIs (P : PF) (d : DefRec) (np : Nat) (K : Keys) (ps : PSs) : Prop where
  mem : d ∈ recsOf P.p
  body : mSs K ps d.body = true
  nodup : K.names.Nodup
  params : ∀ (vals : List Value), vals.length = np → ∀ pm cdv doc, bindArgs (docDef d.name d.params d.body d.scope pm cdv doc) ⟨vals, []⟩ = pure ((K.names.take np).zip vals)
  hnp : np ≤ K.names.length
  plain : ∀ x ∈ K.names.take np, x ∉ K.cells
  locs : ∀ x ∈ K.names, (x == ("__debug__" : Str)) = false ∧ (x ∉ K.cells → d.scope.names.lookup x = some .local) ∧ (x ∈ K.cells → d.scope.names.lookup x = some .cell)
  globs : ∀ x ∈ K.globs, x ∉ K.far → d.scope.names.lookup x = some .globalImplicit
  kind : d.scope.kind = .function
  gen : d.scope.isGenerator = false
  co : d.scope.isCoroutine = false
  cells : CellsOk K d.scope.names

theorem cells_apart : ∀ (names : List (Str × NameKind)) (n : Nat) (acc : List (Str × Addr)), (∀ p ∈ acc, p.2 < n) → acc.Pairwise (fun x y => x.2 ≠ y.2) → (cellsFrom n names acc).Pairwise fun x y => x.2 ≠ y.2
  | [], _, _, _, h => h
  | (name, kind) :: r, n, acc, hl, h => by
    unfold cellsFrom
    split
    · refine cells_apart r (n + 1) _ (fun p hp => ?_) (List.Pairwise.cons (fun p hp => Nat.ne_of_gt (hl p hp)) h)
      rcases List.mem_cons.mp hp with rfl | hp
      · exact Nat.lt_succ_self _
      · exact Nat.lt_succ_of_lt (hl p hp)
    · exact cells_apart r n acc hl h
theorem frame_ok {P : PF} {C : Cx} {room : Nat} (Fo : FrameOf P C room) (G : GOK P C.fa C.K.globs C.gval) (nd : C.K.names.Nodup)
    (locs : ∀ x ∈ C.K.names, (x == ("__debug__" : Str)) = false ∧ (x ∉ C.K.cells → C.env.kindOf x = some .local) ∧ (x ∈ C.K.cells → C.env.kindOf x = some .cell))
    (globs : ∀ x ∈ C.K.globs, x ∉ C.K.far → C.env.kindOf x = some .globalImplicit) (hcells : ∃ b names, C.env.cells = cellsFrom b names [] ∧ CellsOk C.K names)
    (call : ∀ (fz : List Addr) (k : Nat) (args : List AV) (cargs : List Value) (σ : St) (Q : AV → St → Prop) (s : Shared) (m : Str → Option Value) (ad : List Addr) (news : Led),
      0 < s.toks → Rel { C with fz := fz } σ s.heap m ad news → RVs C.base C.fa ad news args cargs → C.fns k args σ.objs (fun v objs => Q v { σ with objs := objs }) → Wp C (call (.ref (C.fa.addr k)) cargs) (PostV { C with fz := fz } Q s ad news) s) : CxOK C where
  hh := Fo.hh
  htop := Fo.keep
  nb := Fo.nb
  units := by have := Fo.units; omega
  kind := Fo.kind
  nodup := nd
  locs := locs
  cellinj := fun x hx y hy c h1 h2 => by
    obtain ⟨b, names, e, hc⟩ := hcells
    rw [e] at h1 h2
    exact name_of_addr (cells_apart names b [] (fun _ hm => (nomatch hm)) List.Pairwise.nil) (mem_of_lookup h1) (mem_of_lookup h2)
  cellat := fun x hx => by
    obtain ⟨b, names, e, hc⟩ := hcells
    rw [e]
    refine mem_lookup ?_
    rw [cellsFrom_names names b 0 [] [] rfl]
    exact hc.at_ x hx
  g := by rw [Fo.mg]; exact Fo.top.g
  b := by rw [Fo.mb]; exact Fo.top.b
  eg := Fo.eg
  eb := Fo.eb
  globs := fun j x v hj hv => by
    obtain ⟨h1, cv, h2, h3⟩ := G.ok j x v hj hv
    refine ⟨⟨h1, fun hf => globs x (List.mem_of_getElem? hj) hf⟩, cv, h2, ?_⟩
    rw [Fo.mg, Fo.mb]
    exact h3
  call := call

theorem call_cellsT {prog : Program} {w : World} {A : Around} {R : Result → Shared → Prop} {s : Shared} {name : Str} {params : Arguments} {body : List Stmt} {scope : Scope}
    {pm cd doc : Value} {a : Addr} {o : Obj} {args : List Value} {binds : List (Str × Value)} (T : 0 < s.toks)
    (hroom : A.depth < recursionLimit) (ho : s.heap.get? a = some o) (hdata : o.data = .func (Calls.docDef name params body scope pm cd doc)) (hlim : s.heap.NoLimit) (hcd : s.heap.CodeRec cd name)
    (hbind : bindArgs (Calls.docDef name params body scope pm cd doc) ⟨args, []⟩ = pure binds)
    (hkind : ∀ x ∈ binds, scope.names.lookup x.1 = some .local ∨ (scope.names.lookup x.1 = some .cell ∧ ((cellsFrom (s.heap.objs.size + 1) scope.names []).lookup x.1).isSome = true))
    (hnd : ((cellsFrom 0 scope.names []).map (·.1)).Nodup)
    (h : ∀ h₁ tk cells, 0 < tk → Fr s.heap s.heap.objs.size h₁ (bindL (envOfC name scope s.heap.objs.size a cd).kindOf binds fun _ => none) → News s.heap s.heap.objs.size h₁ cells →
      CellsAre (bindC (envOfC name scope s.heap.objs.size a cd).kindOf binds fun _ => none) (cellsFrom (s.heap.objs.size + 1) scope.names []) cells →
      wpAny (model prog w) (A.deeper (envOfC name scope s.heap.objs.size a cd)) (execs body (envOfC name scope s.heap.objs.size a cd))
        (fun f s' => R (.ok (.ret (match f with | .ret v => v | _ => .none))) s') (fun _ _ => False) { s with heap := h₁, toks := tk })
    (hco : scope.isCoroutine = false) (hgen : scope.isGenerator = false) (hk : scope.kind = .function) :
    codeAny (model prog w) A (.call (.ref a) ⟨args, []⟩) R s := by
  refine codeAny_call_function hroom ho hdata hco hgen rfl hcd ?_
  rw [hbind]
  refine wpAny_pure (wpAny_with_toks (n := 1) T (wpAny_newFunctionEnv_cells hk hkind fun env he s' X T' => ?_))
  subst he
  obtain ⟨h₁, tk, rfl⟩ := X.toInCall.same
  refine ⟨hlim.keeps X.toInCall.keep, codeAny_func ?_⟩
  obtain ⟨cells, N, Y⟩ := Cl.news (h₀ := s.heap) (L := s.heap.objs.size) (Nat.le_refl _) fun n c hm => ⟨X.cell n c (lookup_of_mem_nodup (cellsFrom_names scope.names 0 (s.heap.objs.size + 1) [] [] rfl ▸ hnd) hm), X.above n c hm⟩
  exact wpAny_mono (h h₁ tk cells T' ⟨X.toInCall.ns, X.toInCall.keep, X.toInCall.fresh⟩ N Y) (fun _ _ x => x) (fun _ _ x => x.elim)

theorem call_def {P : PF} {C : Cx} {room : Nat} {d : DefRec} {np : Nat} {K : Keys} {ps : PSs} {gval : Nat → Option AV} {fns : Fns} {k : Nat} (Fo : FrameOf P C (room + 1)) (D : DefIs P d np K ps)
    (hfa : P.mg d.name = some (.ref (C.fa.addr k)))
    (hok : ∀ C' : Cx, C'.K = K → C'.gval = gval → C'.fns = fns → C'.fa = C.fa → FrameOf P C' room → (∀ x, C'.env.kindOf x = d.scope.names.lookup x) → (∃ b names, C'.env.cells = cellsFrom b names [] ∧ CellsOk C'.K names) → CxOK C') :
    ∀ (args : List AV) (cargs : List Value) (σ : St) (Q : AV → St → Prop) (s : Shared) (m : Str → Option Value) (ad : List Addr) (news : Led),
    0 < s.toks → Rel C σ s.heap m ad news → RVs C.base C.fa ad news args cargs → fnW gval fns np ps args σ.objs (fun v objs => Q v { σ with objs := objs }) → Wp C (call (.ref (C.fa.addr k)) cargs) (PostV C Q s ad news) s := by
  intro args cargs σ Q s m ad news T R ra q
  obtain ⟨f, o, pm, code, doc, h1, h2, h3, h4⟩ := Fo.top.fn d D.mem
  rw [hfa] at h1
  cases h1
  have hlen : cargs.length = np := by rw [← ra.length]; exact q.1
  have hcellN : ∀ b : Nat, ((cellsFrom b d.scope.names []).map (·.1)) = ((cellsFrom 0 d.scope.names []).map (·.1)) := fun b => cellsFrom_names d.scope.names b 0 [] [] rfl
  have hloc : ∀ x ∈ (K.names.take np).zip cargs, d.scope.names.lookup x.1 = some .local := fun x hx => by
    have hm := (List.of_mem_zip hx).1
    exact (D.locs x.1 (List.mem_of_mem_take hm)).2.1 (D.plain _ hm)
  refine wpAny_call (call_cellsT T (by have := Fo.depth; (first | lia | omega)) (R.F.keep _ _ h2) h3 (Fo.top.nolimit.keeps R.F.keep) (h4.keeps R.F.keep) (D.params cargs hlen pm code doc) (fun x hx => .inl (hloc x hx)) D.cells.nd (fun h₁ tk cells T₁ F₁ N₁ X₁ => ?_) D.co D.gen D.kind)
  let env' := envOfC d.name d.scope s.heap.objs.size (C.fa.addr k) code
  let C' : Cx := { prog := C.prog, w := C.w, A := C.A.deeper env', env := env', base := s.heap, fa := C.fa, mg := C.mg, mb := C.mb, K := K, gval := gval, fns := fns, fz := [], ownCells := true }
  have Fo' : FrameOf P C' room := by
    refine ⟨Fo.prog, Fo.w, Fo.mg, Fo.mb, Fo.top.keeps R.F.keep, noneKeeps Fo.nb R.F.keep, ?_, Fo.hh, ?_, fun b o h => R.F.keep _ _ (Fo.keep _ _ h), rfl, rfl, D.kind⟩
    · have := Fo.depth
      show C.A.depth + 1 + room < recursionLimit
      (first | lia | omega)
    · have := Fo.units
      show C.A.units + 3 + 3 * room + 64 < cLine
      (first | lia | omega)
  have ok' := hok C' rfl rfl rfl rfl Fo' (fun x => rfl) ⟨_, _, rfl, D.cells⟩
  have M' : RelM C' ⟨fun i => args[i]?, σ.objs, []⟩ (bindL env'.kindOf ((K.names.take np).zip cargs) fun _ => none) ad cells := by
    refine ⟨fun n v hv => ?_, R.M.len, fun i l hl => ?_, fun i hi => (nomatch hi), R.M.inj, fun a ha => (nomatch ha), fun _ x hx => ?_⟩
    · obtain ⟨cv, hcv, rv⟩ := (down_RVs R (led := cells) ra).get n v hv
      have hn : n < np := by rw [← hlen]; exact (List.getElem?_eq_some_iff.mp hcv).1
      have hx : K.names[n]? = some (K.names[n]'(by have := D.hnp; (first | lia | omega))) := List.getElem?_eq_getElem _
      have hx' : (K.names.take np)[n]? = some (K.names[n]'(by have := D.hnp; (first | lia | omega))) := by rw [List.getElem?_take_of_lt hn]; exact hx
      refine ⟨_, cv, hx, ?_, rv⟩
      unfold VarAt
      rw [if_neg (D.plain _ (List.mem_of_getElem? hx'))]
      exact bindL_eq _ _ _ _ hloc _ (zip_lookup (nd := List.Sublist.nodup (List.take_sublist _ _) D.nodup) (n := n) hx' hcv)
    · obtain ⟨b, items, o', ha, hd, rs⟩ := R.M.obj i l hl
      exact ⟨b, items, o', ha, ⟨.inr (hd.1.get R), hd.2⟩, down_RVs R rs⟩
    · have hx : x ∈ K.cells := hx
      obtain ⟨c, hc⟩ := mem_lookup (x := x) (l := cellsFrom (s.heap.objs.size + 1) d.scope.names []) (by rw [hcellN]; exact D.cells.at_ x hx)
      obtain ⟨o', ho', hd'⟩ := cells_mem X₁ x c (mem_of_lookup hc)
      exact ⟨c, o', hc, ho', _, hd'⟩
  refine wpAny_mono (soundSs ps C' ok' rfl d.body D.body _ _ { s with heap := h₁, toks := tk } _ _ _ T₁ q.2 ⟨F₁, N₁, M'⟩) (fun fl s' hp => ?_) (fun _ _ x => x.elim)
  obtain ⟨fl', σ₁, m₁, ad₁, news₁, q₁, hf, R₁, l₁, r₁⟩ := hp
  have R₂ := up_Rel R R₁ rfl rfl l₁.pre
  have rest : Rest s s' := Rest.mk'.trans r₁
  cases fl' with
  | ret v =>
    cases fl with
    | ret cv => exact ⟨v, _, m, ad₁, _, q₁, up_RV R hf, R₂, up_Le R l₁.pre, rest⟩
    | _ => cases hf
  | next =>
    cases fl with
    | next => exact ⟨.none, _, m, ad₁, _, q₁, .none, R₂, up_Le R l₁.pre, rest⟩
    | _ => cases hf

theorem intsRV {base : Heap} {fa : FA} {ad : List Addr} {news : Led} : ∀ {vs : List Value} {ns : List Int}, IntsAre vs ns → RVs base fa ad news (ns.map .int) vs
  | _, _, .nil => .nil
  | _, _, .cons n t h => .cons _ _ _ _ (.int n t) (intsRV h)

theorem law_core {prog : Program} {w : World} {p : Program} {loose : List Str} {mean : ExcName → Option Value} {mg mb : Str → Option Value} {h₀ : Heap} {env : Env} {L l : Addr} {x₀ : Str} {vs : List Value} {ns : List Int} {m₀ : Str → Option Value} {cells : Led}
    {s : Shared} {Q : Flow → Shared → Prop} {E : Value → Shared → Prop} {body : List Stmt} {K : Keys} {gval : Nat → Option AV} {fns : Fns} {fa : FA}
    (T : Top p loose mean mg mb h₀) (nb : NoneBooked h₀) (F : Fr h₀ L s.heap m₀) (N : News h₀ L s.heap cells) (hL : h₀.IsList l vs.toArray) (hI : IntsAre vs ns)
    (hm : m₀ x₀ = some (.ref l)) (hx : x₀ ∉ K.cells) (hcell : ∀ x ∈ K.cells, ∃ c o, env.cells.lookup x = some c ∧ (c, o) ∈ cells ∧ isCellObj o)
    (hn0 : K.names[0]? = some x₀) (hcs : env.scope.kind = .function) (heL : env.locals = L) (heg : env.globals = mainGlobals) (heb : env.builtins = builtinsNs) (hfa : fa.top = h₀)
    (hok : ∀ C : Cx, C.K = K → C.gval = gval → C.fns = fns → C.fa = fa → C.env = env → FrameOf ⟨prog, w, p, loose, mean, mg, mb⟩ C 8 → CxOK C)
    (run : ∀ C : Cx, CxOK C → C.prog = prog → C.w = w → C.A = callerA.deeper env → C.env = env → C.K = K → C.gval = gval → C.fns = fns → C.ownCells = true → Rel C ⟨fun i => if i = 0 then some (.lst 0) else none, [ns.map .int], []⟩ s.heap m₀ [l] cells → Wp C (execs body env) (PostS C (fun fl _ => fl = .ret (.bool true)) s [l] cells) s)
    (hQ : ∀ h' tk m', Fr h₀ L h' m' → Q (.ret (.bool true)) { s with heap := h', toks := tk }) :
    wpAny (model prog w) (callerA.deeper env) (execs body env) Q E s := by
  subst heL
  let C : Cx := { prog := prog, w := w, A := callerA.deeper env, env := env, base := h₀, fa := fa, mg := mg, mb := mb, K := K, gval := gval, fns := fns, fz := [], ownCells := true }
  have Fo : FrameOf ⟨prog, w, p, loose, mean, mg, mb⟩ C 8 := by
    refine ⟨rfl, rfl, rfl, rfl, T, nb, ?_, rfl, ?_, fun b o h => by subst hfa; exact h, heg, heb, hcs⟩
    · show callerA.depth + 1 + 8 < recursionLimit
      decide
    · show callerA.units + 3 + 3 * 8 + 64 < cLine
      decide
  have ok := hok C rfl rfl rfl rfl rfl Fo
  have M : RelM C ⟨fun i => if i = 0 then some (.lst 0) else none, [ns.map .int], []⟩ m₀ [l] cells := by
    refine ⟨fun n v hv => ?_, rfl, fun i k hk => ?_, (fun i hi => nomatch hi), fun i j a hi hj => ?_, fun a ha => (nomatch ha), fun _ => hcell⟩
    · simp only at hv
      split at hv
      · rename_i hn
        cases hv
        subst hn
        exact ⟨x₀, .ref l, hn0, by unfold VarAt; rw [if_neg hx]; exact hm, .lst 0 l rfl⟩
      · cases hv
    · have : i = 0 := by
        have := (List.getElem?_eq_some_iff.mp hk).1
        simp at this
        omega
      subst this
      simp only [List.getElem?_cons_zero, Option.some.injEq] at hk
      subst hk
      obtain ⟨o, ho, hc, n, hd⟩ := hL
      exact ⟨l, vs, o, rfl, ⟨.inr ho, hc, n, hd⟩, intsRV hI⟩
    · have h1 := (List.getElem?_eq_some_iff.mp hi).1
      have h2 := (List.getElem?_eq_some_iff.mp hj).1
      simp at h1 h2
      omega
  refine wpAny_mono (run C ok rfl rfl rfl rfl rfl rfl rfl rfl ⟨F, N, M⟩) (fun f s' hp => ?_) (fun _ _ x => x.elim)
  obtain ⟨fl, σ', m', ad', news', rfl, hf, R', _, ⟨h', tk, rfl⟩⟩ := hp
  cases f with
  | ret cv => cases hf; exact hQ h' tk m' R'.F
  | _ => cases hf
theorem first63 {C : Cx} {σ : St} {s : Shared} {m : Str → Option Value} {ad : List Addr} {news : Led} {Q : Fl → St → Prop} (ok : CxOK C) (hoc : C.ownCells = true) {x₀ : Str} {kk : Nat} {p₁ p₂ p₃ p₄ p₅ pos : Pos} {body : List Stmt} {ps : PSs} (hn0 : C.K.names[0]? = some x₀)
    (hb : mSs C.K ps body = true) (q : wpSs C.gval C.fns (.cons (.assign (.name 0) (.slTo (.loc 0) (.const (.int 63)))) ps) σ Q) (R : Rel C σ s.heap m ad news) :
    Wp C (execs (.Assign [.Name x₀ p₁] (.Subscript (.Name x₀ p₂) (.Slice none (some (.Constant (.int 63) kk p₃)) none p₄) p₅) pos :: body) C.env) (PostS C Q s ad news) s := by
  obtain ⟨v, hv, k, hk, q⟩ := q
  cases hk
  obtain ⟨x', cv, g1, g2, g3⟩ := R.M.loc 0 v hv
  rw [hn0] at g1
  cases g1
  have hx := List.mem_of_getElem? hn0
  refine wpAny_execs_cons (wpAny_Assign_Name (Subscript_ (wpAny_Name (load_sound ok hx R g2 (wpAny_Slice (evalPart_none_step (evalPart_some_step (wpAny_Constant_int (evalPart_none_step ?_)))))) (ok.locs x₀ hx).1)) rfl)
  refine wpAny_mono (wpAny_toks (slice_sound (value := none) (s := { s with toks := s.toks + 1 }) R g3 .none (.int _ _) q)) (fun cu s₁ hp => ?_) fun _ _ x => x.2
  obtain ⟨ht, u, σ₁, m₁, ad₁, news₁, q₁, ru, R₁, l₁, r₁⟩ := hp
  have T₁ : 0 < s₁.toks := Nat.lt_of_lt_of_le (Nat.succ_pos _) ht
  refine withT (C := C) T₁ (store_sound ok hn0 (fun _ => hoc) R₁ ru fun h' tk m' news' R' l' T' => ?_)
  refine wpAny_mono (soundSs ps C ok hoc body hb _ _ { s₁ with heap := h', toks := tk } _ _ _ T' q₁ R') (fun _ _ x => x.up (l₁.trans l') ?_) fun _ _ x => x
  exact (Rest.toks.trans r₁).trans Rest.mk'
theorem law_start63 {prog : Program} {w : World} {p : Program} {loose : List Str} {mean : ExcName → Option Value} {mg mb : Str → Option Value} {h₀ : Heap} {env : Env} {L l : Addr} {x₀ : Str} {vs : List Value} {ns : List Int} {m₀ : Str → Option Value} {cells : Led}
    {s : Shared} {Q : Flow → Shared → Prop} {E : Value → Shared → Prop} {body : List Stmt} {kk : Nat} {p₁ p₂ p₃ p₄ p₅ pos : Pos} {K : Keys} {ps : PSs} {gval : Nat → Option AV} {fns : Fns} {fa : FA}
    (T : Top p loose mean mg mb h₀) (nb : NoneBooked h₀) (F : Fr h₀ L s.heap m₀) (N : News h₀ L s.heap cells) (hL : h₀.IsList l vs.toArray) (hI : IntsAre vs ns)
    (hm : m₀ x₀ = some (.ref l)) (hx : x₀ ∉ K.cells) (hcell : ∀ x ∈ K.cells, ∃ c o, env.cells.lookup x = some c ∧ (c, o) ∈ cells ∧ isCellObj o)
    (hb : mSs K ps body = true) (hn0 : K.names[0]? = some x₀) (hcs : env.scope.kind = .function) (heL : env.locals = L) (heg : env.globals = mainGlobals) (heb : env.builtins = builtinsNs) (hfa : fa.top = h₀)
    (hok : ∀ C : Cx, C.K = K → C.gval = gval → C.fns = fns → C.fa = fa → C.env = env → FrameOf ⟨prog, w, p, loose, mean, mg, mb⟩ C 8 → CxOK C)
    (q : wpSs gval fns (.cons (.assign (.name 0) (.slTo (.loc 0) (.const (.int 63)))) ps) ⟨fun i => if i = 0 then some (.lst 0) else none, [ns.map .int], []⟩ fun fl _ => fl = .ret (.bool true))
    (hQ : ∀ h' tk m', Fr h₀ L h' m' → Q (.ret (.bool true)) { s with heap := h', toks := tk }) :
    wpAny (model prog w) (callerA.deeper env) (execs (.Assign [.Name x₀ p₁] (.Subscript (.Name x₀ p₂) (.Slice none (some (.Constant (.int 63) kk p₃)) none p₄) p₅) pos :: body) env) Q E s := by
  refine law_core T nb F N hL hI hm hx hcell hn0 hcs heL heg heb hfa hok (fun C ok e1 e2 e3 e4 e5 e6 e7 e8 R => ?_) hQ
  subst e4 e5 e6 e7
  exact first63 ok e8 hn0 hb q R

noncomputable def faOf (mg : Str → Option Value) (h : Heap) (names : List Str) : FA := ⟨fun k => match mg (names.getD k "") with | some (.ref a) => a | _ => 0, h⟩

theorem fa_at {p : Program} {loose : List Str} {mean : ExcName → Option Value} {mg mb : Str → Option Value} {h : Heap} (T : Top p loose mean mg mb h) {d : DefRec} (hd : d ∈ recsOf p) {names : List Str} {k : Nat} (hn : names[k]? = some d.name) :
    mg d.name = some (.ref ((faOf mg h names).addr k)) ∧ ∃ o fd, h.get? ((faOf mg h names).addr k) = some o ∧ o.data = .func fd := by
  obtain ⟨a, o, pm, code, doc, h1, h2, h3, h4⟩ := T.fn d hd
  have e : (faOf mg h names).addr k = a := by
    simp only [faOf, List.getD, hn, Option.getD_some, h1]
  rw [e]
  exact ⟨h1, o, _, h2, h3⟩

theorem nb_of {h : Heap} (e : h.get? cStatics = some { cls := .none, data := .dict #[] }) : NoneBooked h := ⟨fun _ => none, ⟨_, #[], 0, e, rfl, fun _ he => by simp at he, fun _ => rfl⟩, rfl⟩
theorem glob_bi {p : Program} {loose : List Str} {mean : ExcName → Option Value} {mg mb : Str → Option Value} {h : Heap} (T : Top p loose mean mg mb h) {x : Str} {v : Value} (hv : bootBuiltins x = some v)
    (h1 : x ∉ startupNames) (h2 : x ∉ loose) (h3 : x ∉ (recsOf p).map (·.name)) (h4 : x ∉ (litsOf p).map (·.1)) (h4c : x ∉ (clssOf p loose).map (·.name)) (hn : x ≠ "__name__") : mg x = none ∧ mb x = some v :=
  ⟨T.free x h1 h2 h3 h4 h4c, (T.builtins x hn).trans hv⟩
end Mine
namespace Mine
open PySem PySem.W PySem.Float64

section
variable {g : Nat → Option AV} {fns : Fns} {σ : St} {Q : AV → St → Prop} {P : Fl → St → Prop} {B : Bool → Prop}

theorem loc_set_eq {n : Nat} {v : AV} : (σ.set n v).loc n = some v := by simp [St.set, upd]
theorem loc_set_ne {n k : Nat} {v : AV} {o : Option AV} (hne : n ≠ k) (h : σ.loc n = o) : (σ.set k v).loc n = o := by simp [St.set, upd, hne, h]
theorem loc_alloc {n : Nat} {l : List AV} {o : Option AV} (h : σ.loc n = o) : (σ.alloc l).loc n = o := h
theorem objs_set {n : Nat} {v : AV} {o : List (List AV)} (h : σ.objs = o) : (σ.set n v).objs = o := h
theorem objs_alloc {l : List AV} {o : List (List AV)} (h : σ.objs = o) : (σ.alloc l).objs = o ++ [l] := by simp [St.alloc, h]

theorem i_const {v : AV} (h : Q v σ) : wpE g fns (.const v) σ Q := h
theorem i_loc {n : Nat} {v : AV} (e : σ.loc n = some v) (h : Q v σ) : wpE g fns (.loc n) σ Q := ⟨v, e, h⟩
theorem i_glob {n : Nat} {v : AV} (e : g n = some v) (h : Q v σ) : wpE g fns (.glob n) σ Q := ⟨v, e, h⟩
theorem i_bin {op : Operator} {l r : PE} (h : wpE g fns l σ fun a σ₁ => wpE g fns r σ₁ fun b σ₂ => binL op a b σ₂ Q) : wpE g fns (.bin op l r) σ Q := h
theorem i_neg {e : PE} (h : wpE g fns e σ fun v σ₁ => ∃ i, v = .int i ∧ Q (.int (-i)) σ₁) : wpE g fns (.neg e) σ Q := h
theorem i_not {e : PE} (h : wpE g fns e σ fun v σ₁ => truthW v σ₁ fun b => Q (.bool (!b)) σ₁) : wpE g fns (.not e) σ Q := h
theorem i_cmp {op : CmpOp} {l r : PE} (h : wpE g fns l σ fun a σ₁ => wpE g fns r σ₁ fun b σ₂ => cmpL op a b σ₂ fun c => Q (.bool c) σ₂) : wpE g fns (.cmp op l r) σ Q := h
theorem i_bools {isAnd : Bool} {e : PE} {es : PEs} (h : wpE g fns e σ fun v σ₁ => wpBr g fns isAnd es v σ₁ Q) : wpE g fns (.bools isAnd (.cons e es)) σ Q := h
theorem i_br_nil {isAnd : Bool} {v : AV} (h : Q v σ) : wpBr g fns isAnd .nil v σ Q := h
theorem i_and {b : Bool} {e : PE} {es : PEs} (h : b = true → wpE g fns e σ fun u σ₁ => wpBr g fns true es u σ₁ Q) (h' : b = false → Q (.bool b) σ) : wpBr g fns true (.cons e es) (.bool b) σ Q := ⟨h, h'⟩
theorem i_or {b : Bool} {e : PE} {es : PEs} (h : b = false → wpE g fns e σ fun u σ₁ => wpBr g fns false es u σ₁ Q) (h' : b = true → Q (.bool b) σ) : wpBr g fns false (.cons e es) (.bool b) σ Q := ⟨h, h'⟩
theorem i_ite {c a b : PE} (h : wpE g fns c σ fun v σ₁ => truthW v σ₁ fun t => (t = true → wpE g fns a σ₁ Q) ∧ (t = false → wpE g fns b σ₁ Q)) : wpE g fns (.ite c a b) σ Q := h
theorem i_call {f : PE} {args : PEs} (h : wpE g fns f σ fun fv σ₁ => fv.callable = true ∧ wpEs g fns args σ₁ fun vs σ₂ => callW fns fv vs σ₂ Q) : wpE g fns (.call f args) σ Q := h
theorem i_sub {e i : PE} (h : wpE g fns e σ fun o σ₁ => wpE g fns i σ₁ fun v σ₂ => subW o v σ₂ Q) : wpE g fns (.sub e i) σ Q := h
theorem i_slTo {e hi : PE} (h : wpE g fns e σ fun o σ₁ => wpE g fns hi σ₁ fun h σ₂ => ∃ k, h = .int k ∧ sliceW o none (some k) σ₂ Q) : wpE g fns (.slTo e hi) σ Q := h
theorem i_slFrom {e lo : PE} (h : wpE g fns e σ fun o σ₁ => wpE g fns lo σ₁ fun l σ₂ => ∃ k, l = .int k ∧ sliceW o (some k) none σ₂ Q) : wpE g fns (.slFrom e lo) σ Q := h
theorem i_tuple {es : PEs} (h : wpEs g fns es σ fun vs σ₁ => vs.length ≤ sizeLine ∧ Q (.tup vs) σ₁) : wpE g fns (.tuple es) σ Q := h
theorem l_new {o : List (List AV)} {vs : List AV} {R : Nat → Prop} (ho : σ.objs = o) (hz : vs.length ≤ sizeLine) (h : R o.length) : vs.length ≤ sizeLine ∧ ∃ n, σ.objs.length = n ∧ R n := ⟨hz, _, by rw [ho], h⟩
theorem i_list {es : PEs} (h : wpEs g fns es σ fun vs σ₁ => vs.length ≤ sizeLine ∧ ∃ n, σ₁.objs.length = n ∧ Q (.lst n) (σ₁.alloc vs)) : wpE g fns (.list es) σ Q := h
theorem i_es_nil {R : List AV → St → Prop} (h : R [] σ) : wpEs g fns .nil σ R := h
theorem i_es_cons {e : PE} {es : PEs} {R : List AV → St → Prop} (h : wpE g fns e σ fun v σ₁ => wpEs g fns es σ₁ fun vs σ₂ => R (v :: vs) σ₂) : wpEs g fns (.cons e es) σ R := h
theorem i_truth {b : Bool} (h : B b) : truthW (.bool b) σ B := h

theorem i_nil (h : P .next σ) : wpSs g fns .nil σ P := h
theorem i_assign {n : Nat} {e : PE} {ss : PSs} (h : wpE g fns e σ fun v σ₁ => wpSs g fns ss (σ₁.set n v) P) : wpSs g fns (.cons (.assign (.name n) e) ss) σ P := h
theorem i_ret {e : PE} {ss : PSs} (h : wpE g fns e σ fun v σ₁ => P (.ret v) σ₁) : wpSs g fns (.cons (.ret e) ss) σ P := h
theorem i_if {c : PE} {a b ss : PSs} (h : wpE g fns c σ fun v σ₁ => truthW v σ₁ fun t => (t = true → wpSs g fns a σ₁ fun fl σ₂ => match fl with | .next => wpSs g fns ss σ₂ P | .ret v => P (.ret v) σ₂) ∧
    (t = false → wpSs g fns b σ₁ fun fl σ₂ => match fl with | .next => wpSs g fns ss σ₂ P | .ret v => P (.ret v) σ₂)) : wpSs g fns (.cons (.ifs c a b) ss) σ P := h
theorem i_assignT {ns : List Nat} {e : PE} {ss : PSs} (h : wpE g fns e σ fun v σ₁ => partsW (some ns.length) v σ₁.objs fun vs => wpSs g fns ss (setAll σ₁ ns vs) P) : wpSs g fns (.cons (.assign (.tup ns) e) ss) σ P := by
  show wpE g fns e σ fun v σ₁ => bindW (.tup ns) v σ₁ fun σ₂ => wpSs g fns ss σ₂ P
  exact h
theorem i_for {t : Tgt} {it : PE} {body ss : PSs} (h : wpE g fns it σ fun v σ₁ => itemsW v σ₁ fun items => ∃ J : Nat → St → Prop, J 0 σ₁ ∧
      (∀ i u σ₂, items[i]? = some u → J i σ₂ → bindW t u { σ₂ with own := frozen v σ₂.own } fun σ₂' => wpSs g fns body σ₂' fun fl σ₃ => match fl with
        | .next => J (i + 1) { σ₃ with own := thawed v σ₂.own σ₃.own } | .ret w => P (.ret w) { σ₃ with own := thawed v σ₂.own σ₃.own }) ∧ (∀ σ₂, J items.length σ₂ → wpSs g fns ss σ₂ P)) : wpSs g fns (.cons (.for_ t it body) ss) σ P := h
theorem b_name {n : Nat} {v : AV} {K : St → Prop} (h : K (σ.set n v)) : bindW (.name n) v σ K := h
theorem b_tup {ns : List Nat} {l : List AV} {K : St → Prop} (hl : l.length = ns.length) (h : K (setAll σ ns l)) : bindW (.tup ns) (.tup l) σ K := ⟨hl, h⟩
theorem comp_fm {turn : AV → List (List AV) → (Option AV → List (List AV) → Prop) → Prop} {n : Nat} (r : AV → Option AV) : ∀ (items : List AV) (objs : List (List AV)) (Qf : List (List AV) → Prop),
    (∀ u ∈ items, ∀ objs K, K (r u) objs → turn u objs K) → n < objs.length → Qf (objs.set n (objs.getD n [] ++ items.filterMap r)) → compL turn n items objs Qf
  | [], objs, Qf, _, hn, h => by
    show Qf objs
    simp only [List.filterMap_nil, List.append_nil] at h
    have e : objs.set n (objs.getD n []) = objs := by simp [hn]
    rw [e] at h
    exact h
  | u :: us, objs, Qf, ht, hn, h => by
    refine ht u (.head _) objs _ ?_
    cases hr : r u with
    | none =>
      simp only [List.filterMap_cons, hr] at h
      exact comp_fm r us objs Qf (fun v hv => ht v (.tail _ hv)) hn h
    | some w =>
      simp only [List.filterMap_cons, hr] at h
      refine comp_fm r us _ Qf (fun v hv => ht v (.tail _ hv)) (by simp [appendAt, hn]) ?_
      have e : (appendAt objs n w).set n ((appendAt objs n w).getD n [] ++ us.filterMap r) = objs.set n (objs.getD n [] ++ w :: us.filterMap r) := by
        simp [appendAt, hn, List.getD, List.append_assoc]
      rw [e]
      exact h
noncomputable def compRest (turn : AV → List (List AV) → (Option AV → List (List AV) → Prop) → Prop) (σ : St) (items : List AV) (Q : AV → St → Prop) : Prop :=
  items.length ≤ sizeLine ∧ ∃ n, σ.objs.length = n ∧ compL turn n items (σ.objs ++ [[]]) fun objs => Q (.lst n) ⟨σ.loc, objs, n :: σ.own⟩
theorem i_comp {elt iter : PE} {o : Option Nat} {caps gl : List Nat} {ifs : PEs} (h : wpE g fns iter σ fun v σ₁ => itemsW v σ₁ fun items => compRest (compTurnW g σ₁.loc elt o caps gl ifs) σ₁ items Q) : wpE g fns (.comp elt o caps gl iter ifs) σ Q := h
theorem l_comp {turn : AV → List (List AV) → (Option AV → List (List AV) → Prop) → Prop} {os : List (List AV)} {items : List AV} (r : AV → Option AV) (ho : σ.objs = os) (hz : items.length ≤ sizeLine)
    (ht : ∀ u ∈ items, ∀ objs K, K (r u) objs → turn u objs K) (h : Q (.lst os.length) (σ.alloc (items.filterMap r))) :
    compRest turn σ items Q := by
  subst ho
  refine ⟨hz, _, rfl, comp_fm r items _ _ ht (by simp) ?_⟩
  have e : (σ.objs ++ [[]]).set σ.objs.length ((σ.objs ++ [[]]).getD σ.objs.length [] ++ items.filterMap r) = σ.objs ++ [items.filterMap r] := by
    simp [List.getD]
  rw [e]
  exact h
theorem t_lst {j : Nat} {os : List (List AV)} {l : List AV} {K : List AV → Prop} (ho : σ.objs = os) (hj : os[j]? = some l) (h : K l) : itemsW (.lst j) σ K := by
  subst ho
  exact ⟨l, hj, h⟩
theorem t_tup {l : List AV} {K : List AV → Prop} (h : K l) : itemsW (.tup l) σ K := h
theorem rng_len (a b c : Int) : (rngItems a b c).length = (Builtin.Range.rangeSize a b c).toNat := by simp [rngItems]
theorem rng_get {a b c : Int} {i : Nat} {u : AV} (h : (rngItems a b c)[i]? = some u) : i < (Builtin.Range.rangeSize a b c).toNat ∧ u = .int (a + (i : Int) * c) := by
  have hi := (List.getElem?_eq_some_iff.mp h).1
  rw [rng_len] at hi
  refine ⟨hi, ?_⟩
  simp only [rngItems, List.getElem?_map, List.getElem?_range hi, Option.map_some, Option.some.injEq] at h
  exact h.symm

theorem o_addI {x y : Int} (h : Q (.int (x + y)) σ) : binL .Add (.int x) (.int y) σ Q := h
theorem o_subI {x y : Int} (h : Q (.int (x - y)) σ) : binL .Sub (.int x) (.int y) σ Q := h
theorem o_mulI {x y : Int} (hm : IntMulOk x y) (h : Q (.int (x * y)) σ) : binL .Mult (.int x) (.int y) σ Q := ⟨hm, h⟩
theorem o_fdivI {x y : Int} (h0 : y ≠ 0) (h1 : y.natAbs.log2 < 9000) (h : Q (.int (x.fdiv y)) σ) : binL .FloorDiv (.int x) (.int y) σ Q := ⟨⟨h0, h1⟩, h⟩
theorem o_modI {x y : Int} (h0 : y ≠ 0) (h : Q (.int (x.fmod y)) σ) : binL .Mod (.int x) (.int y) σ Q := ⟨h0, h⟩
theorem o_powI {x y : Int} (h0 : 0 ≤ y) (h1 : y ≤ 1000000) (h2 : x.natAbs < 2 ^ 64) (h : Q (.int (x ^ y.toNat)) σ) : binL .Pow (.int x) (.int y) σ Q := ⟨⟨h0, h1, h2⟩, h⟩
theorem o_divI {x y : Int} (h0 : y ≠ 0) (h1 : x.natAbs < 2 ^ 1023) (h : Q (.float (divII x y)) σ) : binL .Div (.int x) (.int y) σ Q := ⟨⟨h0, .inl h1⟩, h⟩
theorem o_addF {x y : UInt64} (h : Q (.float (add x y)) σ) : binL .Add (.float x) (.float y) σ Q := h
theorem o_subF {x y : UInt64} (h : Q (.float (sub x y)) σ) : binL .Sub (.float x) (.float y) σ Q := h
theorem o_mulF {x y : UInt64} (h : Q (.float (mul x y)) σ) : binL .Mult (.float x) (.float y) σ Q := h
theorem o_divF {x y : UInt64} (h0 : isZero y = false) (h : Q (.float (div x y)) σ) : binL .Div (.float x) (.float y) σ Q := ⟨h0, h⟩
theorem o_modF {x y : UInt64} (h0 : isZero y = false) (h : Q (.float (divmod x y).2) σ) : binL .Mod (.float x) (.float y) σ Q := ⟨h0, h⟩
theorem o_subFI {x : UInt64} {n : Int} (h0 : n.natAbs < 2 ^ 1023) (h : Q (.float (sub x (ofInt n))) σ) : binL .Sub (.float x) (.int n) σ Q := ⟨h0, h⟩
theorem o_addL {i j : Nat} {o : List (List AV)} {l k : List AV} (ho : σ.objs = o) (hi : o[i]? = some l) (hj : o[j]? = some k) (hz : l.length + k.length ≤ sizeLine) (h : Q (.lst o.length) (σ.alloc (l ++ k))) : binL .Add (.lst i) (.lst j) σ Q := by
  subst ho
  exact ⟨l, k, hi, hj, hz, h⟩
theorem c_int {op : CmpOp} {x y : Int} (h0 : isOrd op = true) (h : B (icmp op x y)) : cmpL op (.int x) (.int y) σ B := ⟨h0, h⟩
theorem c_flt {op : CmpOp} {x y : UInt64} (h0 : isOrd op = true) (h : B (fcmp op (cmp x y))) : cmpL op (.float x) (.float y) σ B := ⟨h0, h⟩
theorem c_neL {i j : Nat} {o : List (List AV)} {l k : List AV} {ns ms : List Int} (ho : σ.objs = o) (hi : o[i]? = some l) (hj : o[j]? = some k) (h1 : intsOf l = some ns) (h2 : intsOf k = some ms) (h : B (!decide (ns = ms))) : cmpL .NotEq (.lst i) (.lst j) σ B := by
  subst ho
  exact ⟨l, k, ns, ms, ⟨hi, hj⟩, ⟨h1, h2⟩, .inr ⟨rfl, h⟩⟩
theorem s_item {j : Nat} {k : Int} {o : List (List AV)} {l : List AV} {v : AV} (ho : σ.objs = o) (hj : o[j]? = some l) (h0 : 0 ≤ k) (h1 : k < 2 ^ 63) (hv : l[k.toNat]? = some v) (h : Q v σ) : subW (.lst j) (.int k) σ Q := by
  subst ho
  exact ⟨l, v, hj, ⟨h0, h1⟩, hv, h⟩
theorem s_slice {j : Nat} {lo hi : Option Int} {o : List (List AV)} {l : List AV} (ho : σ.objs = o) (hj : o[j]? = some l) (hz : l.length ≤ sizeLine) (h : Q (.lst o.length) (σ.alloc (pick l lo hi))) : sliceW (.lst j) lo hi σ Q := by
  subst ho
  exact ⟨l, hj, hz, h⟩
theorem k_fn {k : Nat} {args : List AV} (h : fns k args σ.objs (fun v objs => Q v { σ with objs := objs })) : callW fns (.fn k) args σ Q := h
theorem k_len {i : Nat} {o : List (List AV)} {l : List AV} (ho : σ.objs = o) (hi : o[i]? = some l) (hz : l.length < 2 ^ 40) (h : Q (.int l.length) σ) : callW fns (.bi .len) [.lst i] σ Q := by
  subst ho
  exact ⟨l, hi, hz, h⟩
theorem k_range1 {b : Int} (h : Q (.rng 0 b 1) σ) : callW fns (.typ .range) [.int b] σ Q := h
theorem k_range3 {a b c : Int} (h0 : c ≠ 0) (h1 : c.natAbs.log2 < 9000) (h : Q (.rng a b c) σ) : callW fns (.typ .range) [.int a, .int b, .int c] σ Q := ⟨⟨h0, h1⟩, h⟩
theorem t_rng {a b c : Int} {K : List AV → Prop} (h0 : Builtin.Range.small a b c = true) (h1 : 0 < c) (h : K (rngItems a b c)) : itemsW (.rng a b c) σ K := ⟨⟨h0, h1⟩, h⟩
end
end Mine
namespace Mine
open PySem PySem.Float64


noncomputable def Fi (x : UInt64) : Prop := ∃ a m e, decode x = .fin a m e
noncomputable def Rep (Z : Nat) : Prop := ∃ t, t < infMag ∧ V t = Z

theorem V_inj {t t' : Nat} (h : V t = V t') : t = t' := by
  rcases Nat.lt_trichotomy t t' with h1 | h1 | h1
  · have := V_lt h1; omega
  · exact h1
  · have := V_lt h1; omega

theorem rep_of {q k : Nat} (hq : q ≤ 2 ^ 53) (hk : k ≤ 2000) : Rep (q * 2 ^ k) := by
  induction k generalizing q with
  | zero =>
    refine ⟨q, ?_, ?_⟩
    · have : infMag = 2047 * 2 ^ 52 := rfl
      (first | lia | omega)
    · have := V_at (k := 0) (q := q) hq (.inr rfl)
      simpa using this
  | succ k ih =>
    by_cases h : 2 ^ 52 ≤ q
    · refine ⟨(k + 1) * 2 ^ 52 + q, ?_, V_at hq (.inl h)⟩
      have : infMag = 2047 * 2 ^ 52 := rfl
      (first | lia | omega)
    · have := ih (q := 2 * q) (by (first | lia | omega)) (by (first | lia | omega))
      rw [Nat.pow_succ, ← Nat.mul_assoc, Nat.mul_right_comm]
      rw [Nat.mul_comm q 2]
      exact this

theorem fi_pack {s : Bool} {t : Nat} (h : t < infMag) : Fi (pack s t) ∧ val (pack s t) = sgn s (V t) := by
  obtain ⟨m, e, hd, _⟩ := decode_pack s h
  exact ⟨⟨s, m, e, hd⟩, val_pack s h⟩

theorem right_exact {r : UInt64} {neg : Bool} {W D Z : Nat} (h : Right r neg W D) (hD : 0 < D) (hW : W = D * Z) (hz : Rep Z) : Fi r ∧ val r = sgn neg Z := by
  obtain ⟨t, rfl, ht, hov, hn⟩ := h
  obtain ⟨t₀, ht₀, hV⟩ := hz
  have hlt : t < infMag := by
    rcases Nat.lt_or_eq_of_le ht with h | h
    · exact h
    · exfalso
      have h1 := hov.mp h
      have hB : V t₀ ≤ V (infMag - 1) := V_mono (by (first | lia | omega))
      have hA : V (infMag - 1) = (2 ^ 53 - 1) * 2 ^ 2045 := by
        have e : infMag - 1 = 2045 * 2 ^ 52 + (2 ^ 53 - 1) := by unfold infMag; (first | lia | omega)
        rw [e]
        exact V_at (k := 2045) (q := 2 ^ 53 - 1) (by (first | lia | omega)) (.inl (by (first | lia | omega)))
      rw [hW, ← hV] at h1
      have h2 : D * V t₀ ≤ D * ((2 ^ 53 - 1) * 2 ^ 2045) := Nat.mul_le_mul_left D (by (first | lia | omega))
      have h3 : (0 : Nat) < 2 ^ 2045 := Nat.two_pow_pos _
      generalize (2 : Nat) ^ 2045 = Y at *
      have h4 : D * ((2 ^ 54 - 1) * Y) = 2 * (D * ((2 ^ 53 - 1) * Y)) + D * Y := by
        have : (2 ^ 54 - 1) * Y = 2 * ((2 ^ 53 - 1) * Y) + Y := by (first | lia | omega)
        rw [this, Nat.mul_add, Nat.mul_left_comm]
      have h5 : 0 < D * Y := Nat.mul_pos hD h3
      (first | lia | omega)
  have hd := (hn hlt t₀).1
  rw [hW, ← hV] at hd
  have e0 : dist (D * V t₀) (D * V t₀) = 0 := by unfold dist; (first | lia | omega)
  rw [e0] at hd
  have e1 : D * V t = D * V t₀ := by unfold dist at hd; (first | lia | omega)
  have e2 : V t = V t₀ := Nat.eq_of_mul_eq_mul_left hD e1
  rw [← hV, ← e2]
  exact fi_pack hlt

theorem sgn_abs (z : Int) : sgn (decide (z < 0)) z.natAbs = z := by
  unfold sgn
  by_cases h : z < 0 <;> simp [h] <;> omega

theorem val_zero (s : Bool) : Fi (zero s) ∧ val (zero s) = 0 := by
  have := fi_pack (s := s) (t := 0) (by unfold infMag; omega)
  refine ⟨this.1, this.2.trans ?_⟩
  rw [V_zero]
  unfold sgn
  cases s <;> rfl

theorem add_exact {x y : UInt64} (hx : Fi x) (hy : Fi y) (hz : Rep (val x + val y).natAbs) : Fi (add x y) ∧ val (add x y) = val x + val y := by
  obtain ⟨a, m, e, hx⟩ := hx
  obtain ⟨b, k, f, hy⟩ := hy
  have h := add_right hx hy
  by_cases h0 : val x + val y = 0
  · rw [h.1 h0, h0]
    exact val_zero _
  · have := right_exact (h.2 h0) Nat.one_pos (by rw [Nat.one_mul]) hz
    rw [sgn_abs] at this
    exact this
theorem sub_exact {x y : UInt64} (hx : Fi x) (hy : Fi y) (hz : Rep (val x - val y).natAbs) : Fi (sub x y) ∧ val (sub x y) = val x - val y := by
  obtain ⟨a, m, e, hx⟩ := hx
  obtain ⟨b, k, f, hy⟩ := hy
  have h := sub_right hx hy
  by_cases h0 : val x - val y = 0
  · rw [h.1 h0, h0]
    exact val_zero _
  · have := right_exact (h.2 h0) Nat.one_pos (by rw [Nat.one_mul]) hz
    rw [sgn_abs] at this
    exact this

theorem sgn_sgn (a b : Bool) (m k : Nat) : sgn (a != b) (m * k) = sgn a m * sgn b k := by
  cases a <;> cases b <;> simp [sgn, Int.neg_mul, Int.mul_neg]
theorem val_sgn {x : UInt64} {a : Bool} {m : Nat} {e : Int} (h : decode x = .fin a m e) : val x = sgn a (val x).natAbs := by
  rw [val_eq h, sgn_natAbs]

noncomputable def TT : Nat := 2 ^ 1074
theorem TT_pos : 0 < TT := Nat.two_pow_pos _
theorem TT_eq (e : Nat) (h : e ≤ 1074) : TT = 2 ^ (1074 - e) * 2 ^ e := by
  unfold TT
  rw [← Nat.pow_add, Nat.sub_add_cancel h]

theorem mul_exact {x y : UInt64} {Z : Int} (hx : Fi x) (hy : Fi y) (hZ : val x * val y = Z * TT) (hz : Rep Z.natAbs) : Fi (mul x y) ∧ val (mul x y) = Z := by
  obtain ⟨a, m, e, hx⟩ := hx
  obtain ⟨b, k, f, hy⟩ := hy
  have h : Right (mul x y) (a != b) ((val x).natAbs * (val y).natAbs) TT := mul_right hx hy
  have e1 : (val x).natAbs * (val y).natAbs = TT * Z.natAbs := by
    rw [← Int.natAbs_mul, hZ, Int.natAbs_mul, Int.natAbs_natCast, Nat.mul_comm]
  have := right_exact h TT_pos e1 hz
  refine ⟨this.1, this.2.trans ?_⟩
  have e2 : sgn (a != b) ((val x).natAbs * (val y).natAbs) = val x * val y := by
    rw [sgn_sgn, ← val_sgn hx, ← val_sgn hy]
  rw [e1, Nat.mul_comm, sgn_mul, hZ] at e2
  have hp : ((TT : Nat) : Int) ≠ 0 := by have := TT_pos; omega
  exact Int.eq_of_mul_eq_mul_right hp e2

structure Is (x : UInt64) (n : Int) (e : Nat) : Prop where
  fi : Fi x
  eq : val x * 2 ^ e = n * TT

theorem pow_pos_int (e : Nat) : (0 : Int) < 2 ^ e := Int.pow_pos (by decide)
theorem Is.inj {x : UInt64} {n m : Int} {e : Nat} (h : Is x n e) (k : Is x m e) : n = m := by
  have := h.eq.symm.trans k.eq
  exact Int.eq_of_mul_eq_mul_right (by have := TT_pos; omega) this
theorem Is.val_eq {x y : UInt64} {n : Int} {e : Nat} (h : Is x n e) (k : Is y n e) : val x = val y := by
  have := h.eq.trans k.eq.symm
  exact Int.eq_of_mul_eq_mul_right (Int.ne_of_gt (pow_pos_int e)) this
theorem Is.up {x : UInt64} {n : Int} {e : Nat} (h : Is x n e) (k : Nat) : Is x (n * 2 ^ k) (e + k) :=
  ⟨h.fi, by rw [Int.pow_add, ← Int.mul_assoc, h.eq, Int.mul_right_comm]⟩
theorem Is.down {x : UInt64} {n : Int} {e k : Nat} (h : Is x (n * 2 ^ k) (e + k)) : Is x n e := by
  refine ⟨h.fi, ?_⟩
  have := h.eq
  rw [Int.pow_add, ← Int.mul_assoc, Int.mul_right_comm n] at this
  exact Int.eq_of_mul_eq_mul_right (Int.ne_of_gt (pow_pos_int k)) this

theorem rep_few {z n : Int} {e : Nat} (h : z * 2 ^ e = n * TT) (hn : n.natAbs ≤ 2 ^ 53) (he : e ≤ 1074) : Rep z.natAbs := by
  have h1 : z = n * 2 ^ (1074 - e) := by
    rw [TT_eq e he] at h
    have : z * 2 ^ e = n * 2 ^ (1074 - e) * 2 ^ e := by
      rw [h, Int.natCast_mul, Int.natCast_pow, Int.natCast_pow, Int.mul_assoc]; rfl
    exact Int.eq_of_mul_eq_mul_right (Int.ne_of_gt (pow_pos_int e)) this
  rw [h1, Int.natAbs_mul, Int.natAbs_pow]
  exact rep_of hn (by omega)

theorem Is.add {x y : UInt64} {n m : Int} {e : Nat} (h : Is x n e) (k : Is y m e) (hn : (n + m).natAbs ≤ 2 ^ 53) (he : e ≤ 1074) : Is (add x y) (n + m) e := by
  have hs : (val x + val y) * 2 ^ e = (n + m) * TT := by rw [Int.add_mul, h.eq, k.eq, Int.add_mul]
  have := add_exact h.fi k.fi (rep_few hs hn he)
  exact ⟨this.1, by rw [this.2]; exact hs⟩
theorem Is.sub {x y : UInt64} {n m : Int} {e : Nat} (h : Is x n e) (k : Is y m e) (hn : (n - m).natAbs ≤ 2 ^ 53) (he : e ≤ 1074) : Is (sub x y) (n - m) e := by
  have hs : (val x - val y) * 2 ^ e = (n - m) * TT := by rw [Int.sub_mul, h.eq, k.eq, Int.sub_mul]
  have := sub_exact h.fi k.fi (rep_few hs hn he)
  exact ⟨this.1, by rw [this.2]; exact hs⟩
theorem Is.mul {x y : UInt64} {n m : Int} {e f : Nat} (h : Is x n e) (k : Is y m f) (hn : (n * m).natAbs ≤ 2 ^ 53) (he : e + f ≤ 1074) : Is (mul x y) (n * m) (e + f) := by
  have hT : (n * m * 2 ^ (1074 - (e + f))) * 2 ^ (e + f) = n * m * TT := by
    rw [TT_eq (e + f) he, Int.natCast_mul, Int.natCast_pow, Int.natCast_pow, Int.mul_assoc]; rfl
  have hZ : val x * val y = (n * m * 2 ^ (1074 - (e + f))) * TT := by
    have h1 : val x * val y * 2 ^ (e + f) = n * m * TT * TT := by
      rw [Int.pow_add]
      calc val x * val y * (2 ^ e * 2 ^ f) = (val x * 2 ^ e) * (val y * 2 ^ f) := by ac_rfl
        _ = n * TT * (m * TT) := by rw [h.eq, k.eq]
        _ = n * m * TT * TT := by ac_rfl
    have h2 : val x * val y * 2 ^ (e + f) = (n * m * 2 ^ (1074 - (e + f)) * TT) * 2 ^ (e + f) := by
      rw [h1, ← hT]; exact Int.mul_right_comm _ _ _
    exact Int.eq_of_mul_eq_mul_right (Int.ne_of_gt (pow_pos_int (e + f))) h2
  have := mul_exact h.fi k.fi hZ (rep_few hT hn he)
  exact ⟨this.1, by rw [this.2]; exact hT⟩

theorem Is.cmp {x y : UInt64} {n m : Int} {e : Nat} (h : Is x n e) (k : Is y m e) : cmp x y = some (compare n m) := by
  obtain ⟨a, m', e', hx⟩ := h.fi
  obtain ⟨b, k', f', hy⟩ := k.fi
  rw [cmp_right hx hy]
  congr 1
  have hp := pow_pos_int e
  have ht : (0 : Int) < TT := by have := TT_pos; omega
  have h1 := h.eq
  have h2 := k.eq
  rcases Int.lt_trichotomy n m with hlt | heq | hgt
  · have : val x < val y := by
      apply Int.lt_of_mul_lt_mul_right (a := 2 ^ e) _ (Int.le_of_lt hp)
      rw [h1, h2]
      exact Int.mul_lt_mul_of_pos_right hlt ht
    rw [Int.compare_eq_lt.mpr hlt, Int.compare_eq_lt.mpr this]
  · subst heq
    have : val x = val y := h.val_eq k
    rw [this]; simp
  · have : val y < val x := by
      apply Int.lt_of_mul_lt_mul_right (a := 2 ^ e) _ (Int.le_of_lt hp)
      rw [h1, h2]
      exact Int.mul_lt_mul_of_pos_right hgt ht
    rw [Int.compare_eq_gt.mpr hgt, Int.compare_eq_gt.mpr this]

theorem Is.quot {p q : Nat} {n e : Nat} {s : Bool} (hq : 0 < q) (h : p * 2 ^ e = n * q) (hn : n ≤ 2 ^ 53) (he : e ≤ 1074) : Is (ofFrac s p q) (sgn s n) e := by
  have hr : Right (ofFrac s p q) s (p * TT) q := ofFrac_right hq (by unfold TT; rfl) hq
  have h1 : p * TT = q * (n * 2 ^ (1074 - e)) := by
    rw [TT_eq e he]
    calc p * (2 ^ (1074 - e) * 2 ^ e) = p * 2 ^ e * 2 ^ (1074 - e) := by ac_rfl
      _ = n * q * 2 ^ (1074 - e) := by rw [h]
      _ = q * (n * 2 ^ (1074 - e)) := by ac_rfl
  have := right_exact hr hq h1 (rep_of hn (by omega))
  refine ⟨this.1, ?_⟩
  rw [this.2, sgn_mul, Int.natCast_pow, Int.mul_assoc, TT_eq e he, Int.natCast_mul, Int.natCast_pow, Int.natCast_pow]; rfl

theorem Is.div {p q n : Int} {e : Nat} (hq : 0 < q) (h : p * 2 ^ e = n * q) (hn : n.natAbs ≤ 2 ^ 53) (he : e ≤ 1074) : Is (ofFrac (decide (p < 0) != decide (q < 0)) p.natAbs q.natAbs) n e := by
  have hs : (decide (p < 0) != decide (q < 0)) = decide (p < 0) := by
    have : ¬ q < 0 := by (first | lia | omega)
    simp [this]
  have h1 : p.natAbs * 2 ^ e = n.natAbs * q.natAbs := by
    have := congrArg Int.natAbs h
    rw [Int.natAbs_mul, Int.natAbs_mul, Int.natAbs_pow] at this
    exact this
  have h2 := Is.quot (s := decide (p < 0)) (by (first | lia | omega) : 0 < q.natAbs) h1 hn he
  rw [hs]
  have h3 : sgn (decide (p < 0)) n.natAbs = n := by
    have hp := pow_pos_int e
    by_cases hp0 : p < 0
    · have : n < 0 := by
        rcases Int.lt_trichotomy n 0 with h | h0 | hgt
        · exact h
        · rw [h0, Int.zero_mul] at h
          have := Int.mul_neg_of_neg_of_pos hp0 hp
          (first | lia | omega)
        · have h4 := Int.mul_pos hgt hq
          have := Int.mul_neg_of_neg_of_pos hp0 hp
          (first | lia | omega)
      unfold sgn; simp [hp0]; (first | lia | omega)
    · have : 0 ≤ n := by
        rcases Int.lt_trichotomy n 0 with hl | h0 | hgt
        · have h4 := Int.mul_neg_of_neg_of_pos hl hq
          have := Int.mul_nonneg (show 0 ≤ p by (first | lia | omega)) (Int.le_of_lt hp)
          (first | lia | omega)
        · (first | lia | omega)
        · (first | lia | omega)
      unfold sgn; simp [hp0]; (first | lia | omega)
  rw [h3] at h2
  exact h2

theorem ofBin_right (s : Bool) (M : Nat) (g : Int) (hg : -1074 ≤ g) : Right (ofBin s M g) s (M * 2 ^ (g + 1074).toNat) 1 := by
  unfold ofBin
  refine ofFrac_right (shift_pos _ _ _ (by decide)) ?_ (by decide)
  have := shift_one M g 1074 (by omega)
  rw [Nat.mul_one]
  exact this

theorem decode_one : decode one = .fin false (2 ^ 52) (-52) := by kernel_rfl
theorem one_is : Fi one ∧ val one = TT := by
  refine ⟨⟨_, _, _, decode_one⟩, ?_⟩
  rw [Float64.val_eq decode_one]
  unfold sgn TT
  simp only [Bool.false_eq_true, if_false]
  have : (-52 + 1074 : Int).toNat = 1022 := by decide
  rw [this, ← Nat.pow_add]
theorem one_Is (e : Nat) : Is one (2 ^ e) e := ⟨one_is.1, by rw [one_is.2, Int.mul_comm]⟩

theorem fm1 {e : Int} (h : -1074 ≤ e) : (e - min e (-52)).toNat + (min e (-52) + 1074).toNat = (e + 1074).toNat := by
  rcases Int.le_total e (-52) with h2 | h2
  · rw [Int.min_eq_left h2, Int.sub_self]; exact Nat.zero_add _
  · rw [Int.min_eq_right h2]; omega
theorem fm2 {e : Int} (h : -1074 ≤ e) : 52 + ((-52 - min e (-52)).toNat + (min e (-52) + 1074).toNat) = 1074 := by
  rcases Int.le_total e (-52) with h2 | h2
  · rw [Int.min_eq_left h2]; omega
  · rw [Int.min_eq_right h2]; decide
theorem fmod_one {x : UInt64} {a : Bool} {m : Nat} {e : Int} (hx : decode x = .fin a m e) : Fi (fmod x one) ∧ val (fmod x one) = sgn a ((val x).natAbs % TT) := by
  have he := decode_ge hx
  have hm := (decode_le hx).1
  have hf : fmod x one = ofBin a (m * 2 ^ (e - min e (-52)).toNat % (2 ^ 52 * 2 ^ (-52 - min e (-52)).toNat)) (min e (-52)) := by
    unfold fmod
    rw [hx, decode_one]
    simp only [align, sgn, Bool.false_eq_true, if_false, Int.toNat_natCast]
    rfl
  have hr := ofBin_right a (m * 2 ^ (e - min e (-52)).toNat % (2 ^ 52 * 2 ^ (-52 - min e (-52)).toNat)) (min e (-52)) (by omega)
  rw [← hf] at hr
  have e1 : (m * 2 ^ (e - min e (-52)).toNat % (2 ^ 52 * 2 ^ (-52 - min e (-52)).toNat)) * 2 ^ (min e (-52) + 1074).toNat = (val x).natAbs % TT := by
    rw [val_natAbs hx, ← Nat.mul_mod_mul_right, Nat.mul_assoc, ← Nat.pow_add, Nat.mul_assoc, ← Nat.pow_add, ← Nat.pow_add]
    unfold TT
    have a1 : (e - min e (-52)).toNat + (min e (-52) + 1074).toNat = (e + 1074).toNat := fm1 he
    rw [a1, fm2 he]
  have hrep : Rep ((val x).natAbs % TT) := by
    rw [← e1]
    refine rep_of ?_ (by omega)
    by_cases h : e ≤ -52
    · have : min e (-52) = e := by omega
      rw [this]
      have h0 : (e - e).toNat = 0 := by omega
      rw [h0, Nat.pow_zero, Nat.mul_one]
      exact Nat.le_trans (Nat.mod_le _ _) (by omega)
    · have : min e (-52) = -52 := by omega
      rw [this]
      have h0 : (-52 - -52 : Int).toNat = 0 := by decide
      rw [h0, Nat.pow_zero, Nat.mul_one]
      have := Nat.mod_lt (m * 2 ^ (e - -52).toNat) (show 0 < 2 ^ 52 by decide)
      omega
  rw [e1] at hr
  have := right_exact hr Nat.one_pos (by rw [Nat.one_mul]) hrep
  exact this

theorem cmp_val {x y : UInt64} (hx : Fi x) (hy : Fi y) : Float64.cmp x y = some (compare (val x) (val y)) := by
  obtain ⟨a, m, e, hx⟩ := hx
  obtain ⟨b, k, f, hy⟩ := hy
  exact cmp_right hx hy
theorem isZero_val {x : UInt64} (hx : Fi x) : isZero x = decide (val x = 0) := by
  obtain ⟨a, m, e, hx⟩ := hx
  have h1 : isZero x = decide (m = 0) := by
    unfold isZero
    rw [hx]
    cases m <;> simp
  rw [h1, Float64.val_eq hx]
  have hp : (0 : Nat) < 2 ^ (e + 1074).toNat := Nat.two_pow_pos _
  by_cases hm : m = 0
  · subst hm
    simp [sgn]
  · have : sgn a (m * 2 ^ (e + 1074).toNat) ≠ 0 := by
      have h2 : 0 < m * 2 ^ (e + 1074).toNat := Nat.mul_pos (by omega) hp
      generalize m * 2 ^ (e + 1074).toNat = z at *
      unfold sgn
      cases a
      · simp only [Bool.false_eq_true, if_false]; omega
      · simp only [if_true]; omega
    simp [hm, this]
theorem lt_val {x y : UInt64} (hx : Fi x) (hy : Fi y) : Float64.lt x y = decide (val x < val y) := by
  unfold Float64.lt
  rw [cmp_val hx hy]
  rcases Int.lt_trichotomy (val x) (val y) with h | h | h
  · rw [Int.compare_eq_lt.mpr h]; simp [h]
  · rw [h]; simp
  · rw [Int.compare_eq_gt.mpr h]
    have : ¬ val x < val y := by omega
    simp [this]

theorem mod_one {x : UInt64} (hx : Fi x) :
    (0 ≤ val x → Fi (divmod x one).2 ∧ val (divmod x one).2 = val x % TT) ∧
    (val x < 0 → val x % TT = 0 → (divmod x one).2 = zero false) ∧
    (val x < 0 → val x % TT ≠ 0 → (divmod x one).2 = add (fmod x one) one ∧ Fi (fmod x one) ∧ val (fmod x one) = val x % TT - TT) := by
  obtain ⟨a, m, e, hd⟩ := hx
  have hx : Fi x := ⟨a, m, e, hd⟩
  obtain ⟨hf, hv⟩ := fmod_one hd
  have hz := isZero_val hf
  have h1 : Float64.lt one (zero false) = false := by decide +kernel
  have hlt := lt_val hf (val_zero false).1
  rw [(val_zero false).2] at hlt
  have hcs : copysign (zero false) one = zero false := by decide +kernel
  have hdm : (divmod x one).2 = if val (fmod x one) = 0 then zero false else if val (fmod x one) < 0 then add (fmod x one) one else fmod x one := by
    unfold divmod
    simp only [hz, h1, hlt, hcs]
    by_cases h0 : val (fmod x one) = 0
    · simp [h0]
    · by_cases h2 : val (fmod x one) < 0
      · simp [h0, h2]
      · simp [h0, h2]
  have hT : (0 : Int) < TT := by have := TT_pos; omega
  have hsg : val x = sgn a (val x).natAbs := val_sgn hd
  have ha : 0 < (val x).natAbs → (a = true ↔ val x < 0) := by
    intro hp
    rw [hsg]
    unfold sgn
    cases a
    · simp
    · simp only [if_true, true_iff]; omega
  refine ⟨fun h0 => ?_, fun h0 h2 => ?_, fun h0 h2 => ?_⟩
  · have hmod : val x % TT = (((val x).natAbs % TT : Nat) : Int) := by
      rw [Int.natCast_emod]
      rw [Int.natAbs_of_nonneg h0]
    by_cases hp : val x = 0
    · have e1 : val (fmod x one) = 0 := by
        rw [hv, hp]; simp [sgn]
      rw [hdm, if_pos e1, hp]
      exact ⟨(val_zero false).1, by rw [(val_zero false).2]; simp⟩
    · have hna : a = false := by
        have := ha (by omega)
        cases a
        · rfl
        · exfalso; have := this.mp rfl; omega
      have e1 : val (fmod x one) = val x % TT := by
        rw [hv, hna, hmod]; rfl
      have e2 : 0 ≤ val x % TT := Int.emod_nonneg _ (by omega)
      rw [hdm, e1]
      by_cases h3 : val x % TT = 0
      · rw [if_pos h3, h3]; exact val_zero false
      · rw [if_neg h3, if_neg (by omega)]
        exact ⟨hf, e1⟩
  · have e1 : val (fmod x one) = 0 := by
      rw [hv]
      have : (val x).natAbs % TT = 0 := by
        have h4 : (TT : Int) ∣ val x := Int.dvd_of_emod_eq_zero h2
        have h5 := Int.natAbs_dvd_natAbs.mpr h4
        rw [Int.natAbs_natCast] at h5
        exact Nat.mod_eq_zero_of_dvd h5
      rw [this]; simp [sgn]
    rw [hdm, if_pos e1]
  · have hna : a = true := (ha (by omega)).mpr h0
    have e3 : (((val x).natAbs % TT : Nat) : Int) = TT - val x % TT := by
      rw [Int.natCast_emod]
      have h4 : ((val x).natAbs : Int) = - val x := by omega
      rw [h4]
      have h5 : -val x = (TT - val x % TT) + TT * (-(val x / TT) - 1) := by
        have := Int.mul_ediv_add_emod (val x) TT
        rw [Int.mul_sub, Int.mul_neg]
        omega
      have h6 := Int.emod_nonneg (val x) (show (TT : Int) ≠ 0 by omega)
      have h7 := Int.emod_lt_of_pos (val x) hT
      rw [h5, Int.add_mul_emod_self_left, Int.emod_eq_of_lt (by omega) (by omega)]
    have e1 : val (fmod x one) = val x % TT - TT := by
      rw [hv, hna]
      show -(((val x).natAbs % TT : Nat) : Int) = _
      omega
    have h6 := Int.emod_nonneg (val x) (show (TT : Int) ≠ 0 by omega)
    have h7 := Int.emod_lt_of_pos (val x) hT
    refine ⟨?_, hf, e1⟩
    rw [hdm, e1, if_neg (by omega), if_pos (by omega)]

theorem Is.mod_one {x : UInt64} {n : Int} {e : Nat} (h : Is x n e) (he : e ≤ 1074) (hn : 0 ≤ n ∨ n % 2 ^ e ≤ 2 ^ 53) : Is (divmod x one).2 (n % 2 ^ e) e := by
  have hp := pow_pos_int e
  have hT : (0 : Int) < TT := by have := TT_pos; omega
  have hmod : (val x % TT) * 2 ^ e = (n % 2 ^ e) * TT := by
    rw [Int.mul_comm, ← Int.mul_emod_mul_of_pos _ _ hp, Int.mul_comm _ (val x), h.eq, Int.mul_comm (n % 2 ^ e), ← Int.mul_emod_mul_of_pos _ _ hT, Int.mul_comm (TT : Int) n, Int.mul_comm (TT : Int) (2 ^ e)]
  obtain ⟨m1, m2, m3⟩ := Mine.mod_one h.fi
  rcases Int.lt_or_le (val x) 0 with h0 | h0
  · by_cases h2 : val x % TT = 0
    · rw [m2 h0 h2]
      refine ⟨(val_zero false).1, ?_⟩
      rw [(val_zero false).2, ← hmod, h2]
    · obtain ⟨e1, e2, e3⟩ := m3 h0 h2
      have hneg : n < 0 := by
        rcases Int.lt_or_le n 0 with hl | hl
        · exact hl
        · have h4 := Int.mul_nonneg hl (Int.le_of_lt hT)
          have h5 := Int.mul_neg_of_neg_of_pos h0 hp
          have := h.eq
          omega
      have hn' : n % 2 ^ e ≤ 2 ^ 53 := by omega
      have h8 := Int.emod_nonneg n (Int.ne_of_gt hp)
      have e4 : (val (fmod x one) + val one) * 2 ^ e = (n % 2 ^ e) * TT := by
        rw [e3, one_is.2, Int.sub_add_cancel, hmod]
      have := add_exact e2 one_is.1 (rep_few e4 (by omega) he)
      rw [e1]
      exact ⟨this.1, by rw [this.2]; exact e4⟩
  · obtain ⟨e1, e2⟩ := m1 h0
    exact ⟨e1, by rw [e2]; exact hmod⟩

theorem Is.of_decode {x : UInt64} {a : Bool} {m : Nat} {ex : Int} (hx : decode x = .fin a m ex) (e : Nat) (he : ex = -(e : Int)) (he' : e ≤ 1074) : Is x (sgn a m) e := by
  refine ⟨⟨a, m, ex, hx⟩, ?_⟩
  have h1 : (ex + 1074).toNat = 1074 - e := by (first | lia | omega)
  rw [Float64.val_eq hx, h1, sgn_mul, Int.natCast_pow, Int.mul_assoc, TT_eq e he', Int.natCast_mul, Int.natCast_pow, Int.natCast_pow]; rfl

theorem right_fi {r : UInt64} {neg : Bool} {W D Z : Nat} (h : Right r neg W D) (hD : 0 < D) (hW : W ≤ D * Z) (hz : Rep Z) : Fi r ∧ (val r).natAbs ≤ Z := by
  obtain ⟨t, rfl, ht, hov, hn⟩ := h
  obtain ⟨t₀, ht₀, hV⟩ := hz
  have hlt : t < infMag := by
    rcases Nat.lt_or_eq_of_le ht with h | h
    · exact h
    · exfalso
      have h1 := hov.mp h
      have hB : V t₀ ≤ V (infMag - 1) := V_mono (by omega)
      have hA : V (infMag - 1) = (2 ^ 53 - 1) * 2 ^ 2045 := by
        have e : infMag - 1 = 2045 * 2 ^ 52 + (2 ^ 53 - 1) := by unfold infMag; omega
        rw [e]
        exact V_at (k := 2045) (q := 2 ^ 53 - 1) (by omega) (.inl (by omega))
      rw [← hV] at hW
      have h2 : D * V t₀ ≤ D * ((2 ^ 53 - 1) * 2 ^ 2045) := Nat.mul_le_mul_left D (by omega)
      have h3 : (0 : Nat) < 2 ^ 2045 := Nat.two_pow_pos _
      generalize (2 : Nat) ^ 2045 = Y at *
      have h4 : D * ((2 ^ 54 - 1) * Y) = 2 * (D * ((2 ^ 53 - 1) * Y)) + D * Y := by
        have : (2 ^ 54 - 1) * Y = 2 * ((2 ^ 53 - 1) * Y) + Y := by omega
        rw [this, Nat.mul_add, Nat.mul_left_comm]
      have h5 : 0 < D * Y := Nat.mul_pos hD h3
      omega
  obtain ⟨h1, h2⟩ := fi_pack (s := neg) hlt
  refine ⟨h1, ?_⟩
  rw [h2, sgn_natAbs]
  have hd := (hn hlt t₀).1
  rw [hV] at hd
  rcases Nat.lt_or_ge Z (V t) with h3 | h3
  · exfalso
    have h4 : D * Z < D * V t := Nat.mul_lt_mul_of_pos_left h3 hD
    unfold dist at hd
    omega
  · exact h3

theorem fi_pack_of {x : UInt64} (hx : Fi x) : ∃ s t, t < infMag ∧ x = pack s t := by
  obtain ⟨a, m, e, hd⟩ := hx
  have hlt := x.toNat_lt
  refine ⟨x.toNat / 2 ^ 63 == 1, x.toNat % 2 ^ 63, ?_, ?_⟩
  · have hi : infMag = 2047 * 2 ^ 52 := rfl
    have hne : x.toNat / 2 ^ 52 % 2048 ≠ 2047 := by
      intro h
      unfold decode at hd
      simp only [h, beq_self_eq_true, if_true] at hd
      split at hd <;> cases hd
    (first | lia | omega)
  · apply UInt64.toNat_inj.mp
    rw [pack_toNat _ (by (first | lia | omega))]
    have : x.toNat / 2 ^ 63 = 0 ∨ x.toNat / 2 ^ 63 = 1 := by (first | lia | omega)
    rcases this with h | h <;> simp [h] <;> (first | lia | omega)
theorem rep_TT {k : Nat} (hk : k ≤ 2 ^ 53) : Rep (k * TT) := rep_of hk (by decide)
end Mine
namespace Mine
open PySem PySem.W PySem.Float64


theorem get_app {α : Type} {o : List α} {l : List α} {i : Nat} {v : α} (h : o[i]? = some v) : (o ++ l)[i]? = some v := by
  rw [List.getElem?_append_left (List.getElem?_eq_some_iff.mp h).1]; exact h
theorem pick_map {α β : Type} (f : α → β) (l : List α) (lo hi : Option Int) : pick (l.map f) lo hi = (pick l lo hi).map f := by
  simp [pick, List.map_drop, List.map_take]
theorem pick_len {α : Type} (l : List α) (lo hi : Option Int) : (pick l lo hi).length ≤ l.length := by
  simp [pick]; omega
theorem get_of {α : Type} (l : List α) {n : Nat} (h : n < l.length) : ∃ a, l[n]? = some a := ⟨l[n], List.getElem?_eq_getElem h⟩
theorem lit_one : (0x3ff0000000000000 : UInt64) = one := by decide +kernel
theorem one_nz : isZero one = false := by decide +kernel
theorem mod_rng (a : Int) {b : Int} (hb : 0 < b) : 0 ≤ a.fmod b ∧ a.fmod b < b := by
  rw [Int.fmod_eq_emod_of_nonneg _ (Int.le_of_lt hb)]
  exact ⟨Int.emod_nonneg _ (Int.ne_of_gt hb), Int.emod_lt_of_pos _ hb⟩
theorem mulOk_l {x y : Int} (h : x.natAbs < 2 ^ 64) : IntMulOk x y := by
  refine IntMulOk.of_left ?_
  unfold Builtin.Int.intBits
  split
  · omega
  · rename_i hx
    have : x.natAbs.log2 < 64 := (Nat.log2_lt (by simpa using hx)).mpr h
    omega
theorem small_fits {n : Int} (h : n.natAbs ≤ 2 ^ 60) : n.natAbs < 2 ^ 1023 := Nat.lt_of_le_of_lt h (Nat.pow_lt_pow_right (by decide) (by decide))
theorem range_lt {b c : Int} {i : Nat} (hc : 0 < c) (h : i < (Builtin.Range.rangeSize 0 b c).toNat) : (i : Int) * c < b := by
  unfold Builtin.Range.rangeSize at h
  rw [if_pos hc] at h
  split at h
  · have h1 : (i : Int) ≤ (b - 0 - 1) / c := by omega
    have h2 := (Int.le_ediv_iff_mul_le hc).mp h1
    omega
  · simp at h
section
open PyProof.Rows PyProof.V
abbrev NamesOk (K : Keys) (names : List (Str × NameKind)) : Prop := ∀ x ∈ K.names, (x == ("__debug__" : Str)) = false ∧ (x ∉ K.cells → names.lookup x = some .local) ∧ (x ∈ K.cells → names.lookup x = some .cell)
theorem topC_names {C : Cx} {K : Keys} {name : Str} {scope : Scope} {L a : Addr} {cd : Value} (h : C.env = envOfC name scope L a cd) (h1 : NamesOk K scope.names) :
    ∀ x ∈ K.names, (x == ("__debug__" : Str)) = false ∧ (x ∉ K.cells → C.env.kindOf x = some .local) ∧ (x ∈ K.cells → C.env.kindOf x = some .cell) := by
  rw [h]; exact h1
theorem topC_globs {C : Cx} {K : Keys} {name : Str} {scope : Scope} {L a : Addr} {cd : Value} (h : C.env = envOfC name scope L a cd) (h1 : ∀ x ∈ K.globs, x ∉ K.far → scope.names.lookup x = some .globalImplicit) :
    ∀ x ∈ K.globs, x ∉ K.far → C.env.kindOf x = some .globalImplicit := by
  rw [h]; exact h1
theorem topC_cells {C : Cx} {K : Keys} {name : Str} {scope : Scope} {L a : Addr} {cd : Value} (h : C.env = envOfC name scope L a cd) (h1 : ∀ x ∈ K.cells, x ∈ (cellsFrom 0 scope.names []).map (·.1)) (h2 : ((cellsFrom 0 scope.names []).map (·.1)).Nodup) : ∃ b names, C.env.cells = cellsFrom b names [] ∧ CellsOk K names :=
  ⟨L + 1, scope.names, by rw [h]; rfl, h1, h2⟩
end

end Mine
namespace Mine
open PySem PySem.W PySem.Float64


section
variable {g : Nat → Option AV} {fns : Fns} {σ : St} {Q : AV → St → Prop} {P : Fl → St → Prop} {B : Bool → Prop}
theorem k_min3 {x y z : UInt64} (h : Q (.float (fmin3 x y z)) σ) : callW fns (.bi .min) [.float x, .float y, .float z] σ Q := h
theorem k_max3 {x y z : UInt64} (h : Q (.float (fmax3 x y z)) σ) : callW fns (.bi .max) [.float x, .float y, .float z] σ Q := h
theorem c_tupNe {l k : List AV} (h0 : l ≠ []) (h1 : eqFs l k = true) (h : B false) : cmpL .NotEq (.tup l) (.tup k) σ B := ⟨⟨h0, h1⟩, .inr ⟨rfl, h⟩⟩
theorem k_isF {x : UInt64} (h : Q (.bool true) σ) : callW fns (.bi .isinstance) [.float x, .typ .float] σ Q := h
theorem k_int {x : UInt64} (h0 : isFinite x = true) (h : Q (.int (Flt.toInt truncOf x)) σ) : callW fns (.typ .int) [.float x] σ Q := ⟨h0, h⟩
theorem s_tup {l : List AV} {k : Int} {v : AV} (h0 : 0 ≤ k) (h1 : k < 2 ^ 63) (hv : l[k.toNat]? = some v) (h : Q v σ) : subW (.tup l) (.int k) σ Q := ⟨v, ⟨h0, h1⟩, hv, h⟩
theorem i_aug {n : Nat} {op : Operator} {e : PE} {ss : PSs} {v : AV} (hv : σ.loc n = some v) (h : wpE g fns e σ fun u σ₁ => augW op v u σ₁ fun w σ₂ => wpSs g fns ss (σ₂.set n w) P) : wpSs g fns (.cons (.aug n op e) ss) σ P := ⟨v, hv, h⟩
theorem g_addI {x y : Int} (h : Q (.int (x + y)) σ) : augW .Add (.int x) (.int y) σ Q := h
theorem c_eqL {i j : Nat} {o : List (List AV)} {l k : List AV} {ns ms : List Int} (ho : σ.objs = o) (hi : o[i]? = some l) (hj : o[j]? = some k) (h1 : intsOf l = some ns) (h2 : intsOf k = some ms) (h : B (decide (ns = ms))) : cmpL .Eq (.lst i) (.lst j) σ B := by
  subst ho
  exact ⟨l, k, ns, ms, ⟨hi, hj⟩, ⟨h1, h2⟩, .inl ⟨rfl, h⟩⟩
theorem i_augSub {o i e : PE} {op : Operator} {ss : PSs} (h : wpE g fns o σ fun v σ₁ => ∃ j, v = .lst j ∧ wpE g fns i σ₁ fun u σ₂ => ∃ k l x, (u = .int k ∧ 0 ≤ k ∧ k < 2 ^ 63) ∧ (σ₂.objs[j]? = some l ∧ l[k.toNat]? = some (.int x)) ∧ op = .Add ∧
      wpE g fns e σ₂ fun w σ₃ => ∃ y l', w = .int y ∧ (σ₃.objs[j]? = some l' ∧ j ∈ σ₃.own ∧ k.toNat < l'.length) ∧ wpSs g fns ss { σ₃ with objs := σ₃.objs.set j (l'.set k.toNat (.int (x + y))) } P) : wpSs g fns (.cons (.augSub o i op e) ss) σ P := h
theorem k_list {i : Nat} {o : List (List AV)} {l : List AV} (ho : σ.objs = o) (hi : o[i]? = some l) (hz : l.length ≤ sizeLine) (h : Q (.lst o.length) (σ.alloc l)) : callW fns (.typ .list) [.lst i] σ Q := by
  subst ho
  exact ⟨l, hi, hz, h⟩
theorem k_tuple {i : Nat} {o : List (List AV)} {l : List AV} (ho : σ.objs = o) (hi : o[i]? = some l) (hz : l.length ≤ sizeLine) (h : Q (.tup l) σ) : callW fns (.typ .tuple) [.lst i] σ Q := by
  subst ho
  exact ⟨l, hi, hz, h⟩
theorem get_last {α : Type} {o : List α} {a : α} : (o ++ [a])[o.length]? = some a := List.getElem?_concat_length ..
theorem get_set {α : Type} {o : List α} {i : Nat} {a b : α} (h : o[i]? = some b) : (o.set i a)[i]? = some a := by
  have := (List.getElem?_eq_some_iff.mp h).1
  simp [this]
theorem get_set_ne {α : Type} {o : List α} {i j : Nat} {a b : α} (hne : j ≠ i) (h : o[j]? = some b) : (o.set i a)[j]? = some b := by
  rw [List.getElem?_set_ne (fun e => hne e.symm)]; exact h
theorem log_small {n : Int} (h : n.natAbs < 2 ^ 64) : n.natAbs.log2 < 9000 := by
  by_cases h0 : n.natAbs = 0
  · rw [h0]; decide
  · have := (Nat.log2_lt h0).mpr h; omega
end

noncomputable def dropS : PSs → PSs
  | .cons _ t => t
  | x => x
end Mine
namespace Mine
open PySem PySem.Float64

noncomputable def Near (W D t : Nat) : Prop := ∀ t', dist W (D * V t) ≤ dist W (D * V t') ∧ (V t' ≠ V t → dist W (D * V t) = dist W (D * V t') → t % 2 = 0)

theorem dist_up {W x y : Nat} (h : dist W x ≤ dist W y) (hxy : y < x) : x + y ≤ 2 * W := by unfold dist at h; omega
theorem dist_dn {W x y : Nat} (h : dist W x ≤ dist W y) (hxy : x < y) : 2 * W ≤ x + y := by unfold dist at h; omega
theorem dist_mid {W x y : Nat} (h : x + y = 2 * W) : dist W x = dist W y := by unfold dist; omega
theorem between {a b c d : Nat} (h1 : a < b) (h2 : c < d) (h3 : c ≤ a) (h4 : d ≤ b) (h : b + a ≤ d + c) : b = d ∧ a = c := by omega
theorem near_mono {W₁ D₁ t₁ W₂ D₂ t₂ : Nat} (hD₁ : 0 < D₁) (hD₂ : 0 < D₂) (h₁ : Near W₁ D₁ t₁) (h₂ : Near W₂ D₂ t₂) (h : W₁ * D₂ ≤ W₂ * D₁) : t₁ ≤ t₂ := by
  rcases Nat.lt_or_ge t₂ t₁ with hlt | hge
  · exfalso
    obtain ⟨a1, a2⟩ := h₁ (t₁ - 1)
    obtain ⟨b1, b2⟩ := h₂ (t₂ + 1)
    have v1 : V (t₁ - 1) < V t₁ := V_lt (Nat.sub_lt (Nat.zero_lt_of_lt hlt) Nat.one_pos)
    have v2 : V t₂ < V (t₂ + 1) := V_succ t₂
    have v3 : V t₂ ≤ V (t₁ - 1) := V_mono (Nat.le_sub_one_of_lt hlt)
    have v4 : V (t₂ + 1) ≤ V t₁ := V_mono hlt
    have c1 := dist_up a1 (Nat.mul_lt_mul_of_pos_left v1 hD₁)
    have c2 := dist_dn b1 (Nat.mul_lt_mul_of_pos_left v2 hD₂)
    have g : (D₁ * D₂) * (V t₁ + V (t₁ - 1)) ≤ (D₁ * D₂) * (V (t₂ + 1) + V t₂) := by
      calc (D₁ * D₂) * (V t₁ + V (t₁ - 1)) = D₂ * (D₁ * V t₁ + D₁ * V (t₁ - 1)) := by rw [← Nat.mul_add]; ac_rfl
        _ ≤ D₂ * (2 * W₁) := Nat.mul_le_mul_left _ c1
        _ = 2 * (W₁ * D₂) := by ac_rfl
        _ ≤ 2 * (W₂ * D₁) := Nat.mul_le_mul_left 2 h
        _ = D₁ * (2 * W₂) := by ac_rfl
        _ ≤ D₁ * (D₂ * V t₂ + D₂ * V (t₂ + 1)) := Nat.mul_le_mul_left _ c2
        _ = (D₁ * D₂) * (V (t₂ + 1) + V t₂) := by rw [← Nat.mul_add]; ac_rfl
    obtain ⟨k1, k4⟩ := between v1 v2 v3 v4 (Nat.le_of_mul_le_mul_left g (Nat.mul_pos hD₁ hD₂))
    have hD : 0 < D₁ * D₂ := Nat.mul_pos hD₁ hD₂
    have m1 : D₁ * V t₁ + D₁ * V (t₁ - 1) = 2 * W₁ := by
      refine Nat.le_antisymm c1 (Nat.le_of_mul_le_mul_left ?_ hD₂)
      calc D₂ * (2 * W₁) = 2 * (W₁ * D₂) := by ac_rfl
        _ ≤ 2 * (W₂ * D₁) := Nat.mul_le_mul_left 2 h
        _ = D₁ * (2 * W₂) := by ac_rfl
        _ ≤ D₁ * (D₂ * V t₂ + D₂ * V (t₂ + 1)) := Nat.mul_le_mul_left _ c2
        _ = D₂ * (D₁ * V t₁ + D₁ * V (t₁ - 1)) := by rw [k1, k4, ← Nat.mul_add, ← Nat.mul_add, Nat.add_comm]; ac_rfl
    have m2 : D₂ * V t₂ + D₂ * V (t₂ + 1) = 2 * W₂ := by
      refine Nat.le_antisymm (Nat.le_of_mul_le_mul_left ?_ hD₁) c2
      calc D₁ * (D₂ * V t₂ + D₂ * V (t₂ + 1)) = D₂ * (D₁ * V t₁ + D₁ * V (t₁ - 1)) := by rw [k1, k4, ← Nat.mul_add, ← Nat.mul_add, Nat.add_comm]; ac_rfl
        _ ≤ D₂ * (2 * W₁) := Nat.mul_le_mul_left _ c1
        _ = 2 * (W₁ * D₂) := by ac_rfl
        _ ≤ 2 * (W₂ * D₁) := Nat.mul_le_mul_left 2 h
        _ = D₁ * (2 * W₂) := by ac_rfl
    have p1 := a2 (Nat.ne_of_lt v1) (dist_mid m1)
    have p2 := b2 (Nat.ne_of_gt v2) (dist_mid m2)
    have k2 : t₁ = t₂ + 1 := V_inj k1
    clear a1 a2 b1 b2 v1 v2 v3 v4 c1 c2 g k1 k4 m1 m2 h h₁ h₂
    omega
  · exact hge
theorem near_zero {D t : Nat} (hD : 0 < D) (h : Near 0 D t) : V t = 0 := by
  have := (h 0).1
  rw [V_zero] at this
  unfold dist at this
  have : D * V t = 0 := by (first | lia | omega)
  rcases Nat.mul_eq_zero.mp this with h | h
  · (first | lia | omega)
  · exact h

structure Rd (r : UInt64) (W : Int) (D : Nat) : Prop where
  fi : Fi r
  pos : 0 < D
  at_ : ∃ t, t < infMag ∧ Near W.natAbs D t ∧ val r = sgn (decide (W < 0)) (V t)

theorem Rd.mono {r r' : UInt64} {W W' : Int} {D D' : Nat} (h : Rd r W D) (k : Rd r' W' D') (hle : W * D' ≤ W' * D) : val r ≤ val r' := by
  obtain ⟨t, ht, hn, hv⟩ := h.at_
  obtain ⟨t', ht', hn', hv'⟩ := k.at_
  have hD := h.pos
  have hD' := k.pos
  rw [hv, hv']
  by_cases h0 : W < 0 <;> by_cases h0' : W' < 0
  · have : W'.natAbs * D ≤ W.natAbs * D' := by
      have e1 : ((W'.natAbs * D : Nat) : Int) = -(W' * D) := by rw [Int.natCast_mul, Int.ofNat_natAbs_of_nonpos (by (first | lia | omega)), Int.neg_mul]
      have e2 : ((W.natAbs * D' : Nat) : Int) = -(W * D') := by rw [Int.natCast_mul, Int.ofNat_natAbs_of_nonpos (by (first | lia | omega)), Int.neg_mul]
      (first | lia | omega)
    have := V_mono (near_mono hD' hD hn' hn this)
    simp only [sgn, h0, h0', decide_true, if_true]
    (first | lia | omega)
  · simp only [sgn, h0, h0', decide_true, decide_false, if_true, Bool.false_eq_true, if_false]
    (first | lia | omega)
  · exfalso
    have e1 : 0 ≤ W * D' := Int.mul_nonneg (by (first | lia | omega)) (by (first | lia | omega))
    have e2 : W' * D < 0 := Int.mul_neg_of_neg_of_pos h0' (by (first | lia | omega))
    (first | lia | omega)
  · have : W.natAbs * D' ≤ W'.natAbs * D := by
      have e1 : ((W'.natAbs * D : Nat) : Int) = W' * D := by rw [Int.natCast_mul, Int.natAbs_of_nonneg (by (first | lia | omega))]
      have e2 : ((W.natAbs * D' : Nat) : Int) = W * D' := by rw [Int.natCast_mul, Int.natAbs_of_nonneg (by (first | lia | omega))]
      (first | lia | omega)
    have := V_mono (near_mono hD hD' hn hn' this)
    simp only [sgn, h0, h0', decide_false, Bool.false_eq_true, if_false]
    (first | lia | omega)
theorem Rd.same {r r' : UInt64} {W W' : Int} {D D' : Nat} (h : Rd r W D) (k : Rd r' W' D') (he : W * D' = W' * D) : val r = val r' :=
  Int.le_antisymm (h.mono k (Int.le_of_eq he)) (k.mono h (Int.le_of_eq he.symm))
theorem Rd.self {y : UInt64} (hy : Fi y) : Rd y (val y) 1 := by
  refine ⟨hy, Nat.one_pos, ?_⟩
  obtain ⟨s, t, ht, rfl⟩ := fi_pack_of hy
  have hv := (fi_pack (s := s) ht).2
  have ha : (val (pack s t)).natAbs = V t := by rw [hv, sgn_natAbs]
  refine ⟨t, ht, fun t' => ⟨by rw [ha]; unfold dist; (first | lia | omega), fun h1 h2 => absurd h2 (by rw [ha]; unfold dist; (first | lia | omega))⟩, ?_⟩
  rw [hv]
  cases s with
  | false =>
    have : ¬ sgn false (V t) < 0 := by simp only [sgn, Bool.false_eq_true, if_false]; (first | lia | omega)
    simp only [this, decide_false]
  | true =>
    by_cases h0 : V t = 0
    · rw [h0]; simp [sgn]
    · have : sgn true (V t) < 0 := by simp only [sgn, if_true]; (first | lia | omega)
      simp only [this, decide_true]
theorem Rd.ge {r y : UInt64} {W : Int} {D : Nat} (h : Rd r W D) (hy : Fi y) (hle : val y * D ≤ W) : val y ≤ val r := (Rd.self hy).mono h (by simpa using hle)
theorem Rd.le {r y : UInt64} {W : Int} {D : Nat} (h : Rd r W D) (hy : Fi y) (hle : W ≤ val y * D) : val r ≤ val y := h.mono (Rd.self hy) (by simpa using hle)

theorem right_rd {r : UInt64} {neg : Bool} {W D Z : Nat} {S : Int} (h : Right r neg W D) (hD : 0 < D) (hW : W ≤ D * Z) (hz : Rep Z) (ha : S.natAbs = W) (hs : W ≠ 0 → neg = decide (S < 0)) : Rd r S D := by
  have hf := (right_fi h hD hW hz).1
  obtain ⟨t, rfl, ht, hov, hn⟩ := h
  have hlt : t < infMag := by
    rcases Nat.lt_or_eq_of_le ht with h | h
    · exact h
    · exfalso
      obtain ⟨a, m, e, hd⟩ := hf
      rw [h] at hd
      cases neg
      · have h2 : decode (pack false infMag) = .inf false := by kernel_rfl
        rw [h2] at hd; cases hd
      · have h2 : decode (pack true infMag) = .inf true := by kernel_rfl
        rw [h2] at hd; cases hd
  refine ⟨hf, hD, t, hlt, ?_, ?_⟩
  · rw [ha]
    exact hn hlt
  · rw [(fi_pack (s := neg) hlt).2]
    by_cases h0 : W = 0
    · have := near_zero hD (by have := hn hlt; rw [h0] at this; exact this)
      rw [this]
      cases neg <;> cases decide (S < 0) <;> rfl
    · rw [hs h0]
theorem Rd.zero (s : Bool) : Rd (zero s) 0 1 := by
  have h := val_zero s
  refine ⟨h.1, Nat.one_pos, 0, by decide, fun t' => ⟨by rw [V_zero]; unfold dist; simp, fun _ _ => rfl⟩, ?_⟩
  rw [h.2, V_zero]
  rfl
noncomputable def big : Nat := 2 ^ 53 * TT
theorem rep_big : Rep big := rep_TT (Nat.le_refl _)
theorem Rd.add {x y : UInt64} (hx : Fi x) (hy : Fi y) (hb : (val x + val y).natAbs ≤ big) : Rd (add x y) (val x + val y) 1 := by
  obtain ⟨a, m, e, hx⟩ := hx
  obtain ⟨b, k, f, hy⟩ := hy
  have h := add_right hx hy
  by_cases h0 : val x + val y = 0
  · rw [h.1 h0, h0]; exact Rd.zero _
  · exact right_rd (h.2 h0) Nat.one_pos (by omega) rep_big rfl fun _ => rfl
theorem Rd.sub {x y : UInt64} (hx : Fi x) (hy : Fi y) (hb : (val x - val y).natAbs ≤ big) : Rd (sub x y) (val x - val y) 1 := by
  obtain ⟨a, m, e, hx⟩ := hx
  obtain ⟨b, k, f, hy⟩ := hy
  have h := sub_right hx hy
  by_cases h0 : val x - val y = 0
  · rw [h.1 h0, h0]; exact Rd.zero _
  · exact right_rd (h.2 h0) Nat.one_pos (by omega) rep_big rfl fun _ => rfl
theorem sgn_neg {x : UInt64} {a : Bool} {m : Nat} {e : Int} (hx : decode x = .fin a m e) (h0 : val x ≠ 0) : a = decide (val x < 0) := by
  have := val_sgn hx
  generalize (val x).natAbs = n at *
  rw [this] at h0 ⊢
  cases a
  · have : ¬ sgn false n < 0 := by simp only [sgn, Bool.false_eq_true, if_false]; omega
    simp [this]
  · have : sgn true n < 0 := by
      simp only [sgn, if_true] at h0 ⊢
      omega
    simp [this]
theorem mul_neg_iff {a b : Int} (ha : a ≠ 0) (hb : b ≠ 0) : (decide (a < 0) != decide (b < 0)) = decide (a * b < 0) := by
  by_cases h1 : a < 0 <;> by_cases h2 : b < 0
  · have : ¬ a * b < 0 := by have := Int.mul_pos_of_neg_of_neg h1 h2; (first | lia | omega)
    simp [h1, h2, this]
  · have : a * b < 0 := Int.mul_neg_of_neg_of_pos h1 (by (first | lia | omega))
    simp [h1, h2, this]
  · have : a * b < 0 := Int.mul_neg_of_pos_of_neg (by (first | lia | omega)) h2
    simp [h1, h2, this]
  · have : ¬ a * b < 0 := by have := Int.mul_nonneg (a := a) (b := b) (by (first | lia | omega)) (by (first | lia | omega)); (first | lia | omega)
    simp [h1, h2, this]
theorem Rd.mul {x y : UInt64} (hx : Fi x) (hy : Fi y) (hb : (val x * val y).natAbs ≤ TT * big) : Rd (mul x y) (val x * val y) TT := by
  obtain ⟨a, m, e, hx⟩ := hx
  obtain ⟨b, k, f, hy⟩ := hy
  refine right_rd (mul_right hx hy) TT_pos (by rw [← Int.natAbs_mul]; exact hb) rep_big (Int.natAbs_mul ..) fun h0 => ?_
  have h1 : val x ≠ 0 := fun h => h0 (by rw [h]; simp)
  have h2 : val y ≠ 0 := fun h => h0 (by rw [h]; simp)
  rw [sgn_neg hx h1, sgn_neg hy h2]
  exact mul_neg_iff h1 h2
theorem Rd.div {x y : UInt64} (hx : Fi x) (hy : Fi y) (h0 : 0 < val y) (hb : (val x).natAbs ≤ (val y).natAbs * 2 ^ 53) : Rd (div x y) (val x * TT) (val y).toNat := by
  obtain ⟨a, m, e, hx⟩ := hx
  obtain ⟨b, k, f, hy⟩ := hy
  have hk : k ≠ 0 := by
    rintro rfl
    have := val_natAbs hy
    simp at this
    (first | lia | omega)
  have e1 : (val y).toNat = (val y).natAbs := by (first | lia | omega)
  rw [e1]
  refine right_rd (Z := big) (div_right hx hy hk) (by (first | lia | omega)) ?_ rep_big (by rw [Int.natAbs_mul]; rfl) fun h => ?_
  · unfold big
    calc (val x).natAbs * 2 ^ 1074 ≤ (val y).natAbs * 2 ^ 53 * 2 ^ 1074 := Nat.mul_le_mul_right _ hb
      _ = (val y).natAbs * (2 ^ 53 * TT) := by rw [Nat.mul_assoc]; rfl
  · have h1 : val x ≠ 0 := fun h' => h (by rw [h']; simp)
    have hT : (0 : Int) < TT := by have := TT_pos; (first | lia | omega)
    rw [sgn_neg hx h1, sgn_neg hy (by (first | lia | omega))]
    have : ¬ val y < 0 := by (first | lia | omega)
    simp only [this, decide_false, Bool.bne_false]
    by_cases hn : val x < 0
    · have : val x * TT < 0 := Int.mul_neg_of_neg_of_pos hn hT
      simp [hn, this]
    · have : ¬ val x * TT < 0 := by have := Int.mul_nonneg (a := val x) (b := TT) (by (first | lia | omega)) (by (first | lia | omega)); (first | lia | omega)
      simp [hn, this]
theorem Rd.frac {p : Int} {q : Nat} (hq : 0 < q) (hb : p.natAbs ≤ q * 2 ^ 53) : Rd (ofFrac (decide (p < 0)) p.natAbs q) (p * TT) q := by
  have hT : (0 : Int) < TT := by have := TT_pos; omega
  refine right_rd (W := p.natAbs * 2 ^ 1074) (Z := big) (ofFrac_right hq rfl hq) hq ?_ rep_big (by rw [Int.natAbs_mul]; rfl) fun h => ?_
  · unfold big
    calc p.natAbs * 2 ^ 1074 ≤ q * 2 ^ 53 * 2 ^ 1074 := Nat.mul_le_mul_right _ hb
      _ = q * (2 ^ 53 * TT) := by rw [Nat.mul_assoc]; rfl
  · by_cases hn : p < 0
    · have : p * TT < 0 := Int.mul_neg_of_neg_of_pos hn hT
      simp [hn, this]
    · have : ¬ p * TT < 0 := by have := Int.mul_nonneg (a := p) (b := TT) (by omega) (by omega); omega
      simp [hn, this]
theorem abs_at (W : Int) (A : Nat) : (W - sgn (decide (W < 0)) A).natAbs = dist W.natAbs A := by
  by_cases h0 : W < 0
  · simp only [h0, decide_true, sgn, if_true]; unfold dist; omega
  · simp only [h0, decide_false, sgn, if_false, Bool.false_eq_true]; unfold dist; omega
theorem abs_of (W : Int) (s : Bool) (B : Nat) : dist W.natAbs B ≤ (W - sgn s B).natAbs := by
  cases s
  · simp only [sgn, if_false, Bool.false_eq_true]; unfold dist; omega
  · simp only [sgn, if_true]; unfold dist; omega
theorem mul_sgn (D : Nat) (b : Bool) (n : Nat) : (D : Int) * sgn b n = sgn b (D * n) := by
  cases b
  · simp [sgn]
  · simp only [sgn, if_true]; rw [Int.mul_neg, ← Int.natCast_mul]
theorem Rd.near {r y : UInt64} {W : Int} {D : Nat} (h : Rd r W D) (hy : Fi y) : (W - D * val r).natAbs ≤ (W - D * val y).natAbs := by
  obtain ⟨t, ht, hn, hv⟩ := h.at_
  obtain ⟨s, t', ht', rfl⟩ := fi_pack_of hy
  rw [hv, (fi_pack (s := s) ht').2, mul_sgn, mul_sgn, abs_at]
  exact Nat.le_trans (hn t').1 (abs_of W s _)
end Mine
namespace Mine
open PySem PySem.Float64

theorem TT_posI : (0 : Int) < TT := by have := TT_pos; omega
theorem dist_scale (k a b : Nat) : dist (k * a) (k * b) = k * dist a b := by
  unfold dist
  rw [← Nat.mul_sub, ← Nat.mul_sub, ← Nat.mul_add]
theorem near_congr {W D W' D' t : Nat} (hD : 0 < D) (hD' : 0 < D') (he : W * D' = W' * D) (h : Near W D t) : Near W' D' t := by
  have key : ∀ u, D * dist W' (D' * V u) = D' * dist W (D * V u) := by
    intro u
    rw [← dist_scale, ← dist_scale]
    have e1 : D * W' = D' * W := by rw [Nat.mul_comm D, ← he, Nat.mul_comm]
    have e2 : D * (D' * V u) = D' * (D * V u) := by ac_rfl
    rw [e1, e2]
  intro t'
  have k1 := key t
  have k2 := key t'
  obtain ⟨h1, h2⟩ := h t'
  constructor
  · have := Nat.mul_le_mul_left D' h1
    rw [← k1, ← k2] at this
    exact Nat.le_of_mul_le_mul_left this hD
  · intro h3 h4
    refine h2 h3 ?_
    rw [h4, k2] at k1
    exact (Nat.eq_of_mul_eq_mul_left hD' k1).symm
theorem Rd.congr {r : UInt64} {W W' : Int} {D D' : Nat} (h : Rd r W D) (hD' : 0 < D') (he : W * D' = W' * D) : Rd r W' D' := by
  obtain ⟨t, ht, hn, hv⟩ := h.at_
  have hD := h.pos
  have e1 : W.natAbs * D' = W'.natAbs * D := by
    have := congrArg Int.natAbs he
    rw [Int.natAbs_mul, Int.natAbs_mul] at this
    simpa using this
  have e2 : decide (W < 0) = decide (W' < 0) := by
    have a1 : W < 0 ↔ W * D' < 0 := by
      constructor
      · intro h; exact Int.mul_neg_of_neg_of_pos h (by omega)
      · intro h
        by_cases h1 : W < 0
        · exact h1
        · have := Int.mul_nonneg (a := W) (b := D') (by omega) (by omega); omega
    have a2 : W' < 0 ↔ W' * D < 0 := by
      constructor
      · intro h; exact Int.mul_neg_of_neg_of_pos h (by omega)
      · intro h
        by_cases h1 : W' < 0
        · exact h1
        · have := Int.mul_nonneg (a := W') (b := D) (by omega) (by omega); omega
    rw [decide_eq_decide, a1, a2, he]
  exact ⟨h.fi, hD', t, ht, near_congr hD hD' e1 hn, by rw [hv, e2]⟩

structure In (x : UInt64) (K J : Int) (e : Nat) : Prop where
  fi : Fi x
  lo : K * TT ≤ val x * 2 ^ e
  hi : val x * 2 ^ e ≤ J * TT
theorem Is.in {x : UInt64} {n : Int} {e : Nat} (h : Is x n e) : In x n n e := ⟨h.fi, Int.le_of_eq h.eq.symm, Int.le_of_eq h.eq⟩
theorem In.is {x : UInt64} {n : Int} {e : Nat} (h : In x n n e) : Is x n e := ⟨h.fi, Int.le_antisymm h.hi h.lo⟩
noncomputable def fl (K : Int) (e : Nat) : UInt64 := ofFrac (decide (K < 0) != decide ((2 ^ e : Int) < 0)) K.natAbs (2 ^ e : Int).natAbs
theorem fl_is {K : Int} {e : Nat} (hK : K.natAbs ≤ 2 ^ 53) (he : e ≤ 1074) : Is (fl K e) K e := Is.div (p := K) (q := 2 ^ e) (pow_pos_int e) rfl hK he
theorem Rd.in {r : UInt64} {W K J : Int} {D e : Nat} (h : Rd r W D) (hK : K.natAbs ≤ 2 ^ 53) (hJ : J.natAbs ≤ 2 ^ 53) (he : e ≤ 1074) (h1 : K * TT * D ≤ W * 2 ^ e) (h2 : W * 2 ^ e ≤ J * TT * D) : In r K J e := by
  have iK := fl_is hK he
  have iJ := fl_is hJ he
  have p := pow_pos_int e
  refine ⟨h.fi, ?_, ?_⟩
  · rw [← iK.eq]
    refine Int.mul_le_mul_of_nonneg_right (h.ge iK.fi ?_) (Int.le_of_lt p)
    refine Int.le_of_mul_le_mul_right ?_ p
    calc val (fl K e) * D * 2 ^ e = val (fl K e) * 2 ^ e * D := Int.mul_right_comm _ _ _
      _ = K * TT * D := by rw [iK.eq]
      _ ≤ W * 2 ^ e := h1
  · rw [← iJ.eq]
    refine Int.mul_le_mul_of_nonneg_right (h.le iJ.fi ?_) (Int.le_of_lt p)
    refine Int.le_of_mul_le_mul_right ?_ p
    calc W * 2 ^ e ≤ J * TT * D := h2
      _ = val (fl J e) * 2 ^ e * D := by rw [iJ.eq]
      _ = val (fl J e) * D * 2 ^ e := Int.mul_right_comm _ _ _
theorem In.small {x : UInt64} {K J : Int} {e k : Nat} (h : In x K J e) (hK : -(k : Int) * 2 ^ e ≤ K) (hJ : J ≤ (k : Int) * 2 ^ e) : (val x).natAbs ≤ k * TT := by
  have p := pow_pos_int e
  have T := TT_posI
  have a1 : -(k : Int) * TT ≤ val x := by
    refine Int.le_of_mul_le_mul_right ?_ p
    calc -(k : Int) * TT * 2 ^ e = -(k : Int) * 2 ^ e * TT := Int.mul_right_comm _ _ _
      _ ≤ K * TT := Int.mul_le_mul_of_nonneg_right hK (Int.le_of_lt T)
      _ ≤ _ := h.lo
  have a2 : val x ≤ (k : Int) * TT := by
    refine Int.le_of_mul_le_mul_right ?_ p
    calc val x * 2 ^ e ≤ J * TT := h.hi
      _ ≤ (k : Int) * 2 ^ e * TT := Int.mul_le_mul_of_nonneg_right hJ (Int.le_of_lt T)
      _ = (k : Int) * TT * 2 ^ e := Int.mul_right_comm _ _ _
  rw [Int.neg_mul] at a1
  have e1 : ((k * TT : Nat) : Int) = (k : Int) * TT := by simp
  omega
theorem abs_le_pow {K : Int} {e : Nat} (h : K.natAbs ≤ 2 ^ 53) : -((2 ^ 53 : Nat) : Int) * 2 ^ e ≤ K ∧ K ≤ ((2 ^ 53 : Nat) : Int) * 2 ^ e := by
  have p : (1 : Int) ≤ 2 ^ e := pow_pos_int e
  have : ((2 ^ 53 : Nat) : Int) * 1 ≤ ((2 ^ 53 : Nat) : Int) * 2 ^ e := Int.mul_le_mul_of_nonneg_left p (by omega)
  rw [Int.neg_mul]
  omega
theorem In.add {x y : UInt64} {K J K' J' : Int} {e : Nat} (h : In x K J e) (k : In y K' J' e) (hK : (K + K').natAbs ≤ 2 ^ 53) (hJ : (J + J').natAbs ≤ 2 ^ 53) (he : e ≤ 1074) : In (add x y) (K + K') (J + J') e := by
  have a1 : (K + K') * TT ≤ (val x + val y) * 2 ^ e := by rw [Int.add_mul, Int.add_mul]; exact Int.add_le_add h.lo k.lo
  have a2 : (val x + val y) * 2 ^ e ≤ (J + J') * TT := by rw [Int.add_mul, Int.add_mul]; exact Int.add_le_add h.hi k.hi
  have p := pow_pos_int e
  have T := TT_posI
  have hb : (val x + val y).natAbs ≤ big := by
    have b1 : -((2 ^ 53 : Nat) : Int) * TT ≤ val x + val y := by
      refine Int.le_of_mul_le_mul_right ?_ p
      calc _ = -((2 ^ 53 : Nat) : Int) * 2 ^ e * TT := Int.mul_right_comm _ _ _
        _ ≤ (K + K') * TT := Int.mul_le_mul_of_nonneg_right (abs_le_pow hK).1 (Int.le_of_lt T)
        _ ≤ _ := a1
    have b2 : val x + val y ≤ ((2 ^ 53 : Nat) : Int) * TT := by
      refine Int.le_of_mul_le_mul_right ?_ p
      calc _ ≤ (J + J') * TT := a2
        _ ≤ ((2 ^ 53 : Nat) : Int) * 2 ^ e * TT := Int.mul_le_mul_of_nonneg_right (abs_le_pow hJ).2 (Int.le_of_lt T)
        _ = _ := Int.mul_right_comm _ _ _
    have e1 : ((big : Nat) : Int) = ((2 ^ 53 : Nat) : Int) * TT := by unfold big; simp
    rw [Int.neg_mul] at b1
    omega
  exact (Rd.add h.fi k.fi hb).in hK hJ he (by simpa using a1) (by simpa using a2)
end Mine
namespace Mine
open PySem PySem.Float64

noncomputable def UU : Nat := 2 ^ 1021
theorem UU_pos : (0 : Int) < UU := by unfold UU; exact_mod_cast Nat.two_pow_pos 1021
theorem TT_UU : TT = 2 ^ 53 * UU := by
  unfold TT UU
  rw [← Nat.pow_add]
theorem TT_UUi : (TT : Int) = 9007199254740992 * UU := by
  have := congrArg (fun n : Nat => (n : Int)) TT_UU
  simpa using this
theorem half_dvd {r : UInt64} (hr : Fi r) (h : 2 ^ 52 * (UU : Int) ≤ val r) : ∃ n : Int, val r = n * UU := by
  obtain ⟨s, t, ht, rfl⟩ := fi_pack_of hr
  rw [(fi_pack (s := s) ht).2] at h ⊢
  have hU := UU_pos
  cases s with
  | true => simp only [sgn, if_true] at h; omega
  | false =>
    simp only [sgn, Bool.false_eq_true, if_false] at h ⊢
    obtain ⟨k, q, _, hq, _, hV⟩ := V_form t
    rw [hV] at h ⊢
    have h' : 2 ^ 52 * UU ≤ q * 2 ^ k := by exact_mod_cast h
    have hk : 1021 ≤ k := by
      rcases Nat.lt_or_ge k 1021 with hlt | hge
      · exfalso
        have h1 : 2 ^ k ≤ 2 ^ 1020 := Nat.pow_le_pow_right (by decide) (by omega)
        have h2 : q * 2 ^ k ≤ q * 2 ^ 1020 := Nat.mul_le_mul_left _ h1
        have h3 : UU = 2 * 2 ^ 1020 := by unfold UU; rw [← Nat.pow_succ']
        have h4 : (0 : Nat) < 2 ^ 1020 := Nat.two_pow_pos _
        generalize (2 : Nat) ^ 1020 = Y at *
        have h5 : q * Y < 2 ^ 53 * Y := Nat.mul_lt_mul_of_pos_right hq h4
        omega
      · exact hge
    obtain ⟨d, rfl⟩ := Nat.exists_eq_add_of_le hk
    refine ⟨((q * 2 ^ d : Nat) : Int), ?_⟩
    rw [← Int.natCast_mul]
    congr 1
    rw [Nat.pow_add]
    show q * (UU * 2 ^ d) = q * 2 ^ d * UU
    ac_rfl
theorem Rd.grid {r : UInt64} {W N : Int} {D : Nat} (h : Rd r W D) (h1 : 2 ^ 52 < N) (h2 : N ≤ 2 ^ 53) (hd : 2 * (W - D * (N * UU)).natAbs < D * UU) : Is r N 53 := by
  have hU := UU_pos
  have iy := fl_is (K := N) (e := 53) (by omega) (by decide)
  have vy : val (fl N 53) = N * UU := by
    have := iy.eq
    rw [TT_UUi] at this
    have e : N * (9007199254740992 * (UU : Int)) = N * UU * 9007199254740992 := by grind
    rw [e] at this
    exact Int.eq_of_mul_eq_mul_right (by decide) this
  have hn := h.near iy.fi
  rw [vy] at hn
  have hD := h.pos
  have key : (D : Int) * (val r - N * UU) < D * UU ∧ -(D * (UU : Int)) < D * (val r - N * UU) := by
    have e : (D : Int) * (val r - N * UU) = D * val r - D * (N * UU) := Int.mul_sub ..
    have e2 : ((D * UU : Nat) : Int) = (D : Int) * UU := Int.natCast_mul ..
    rw [e]
    omega
  have k1 : val r - N * UU < UU := Int.lt_of_mul_lt_mul_left key.1 (by omega)
  have k2 : -(UU : Int) < val r - N * UU := by
    refine Int.lt_of_mul_lt_mul_left (a := (D : Int)) ?_ (by omega)
    rw [Int.mul_neg]
    exact key.2
  have h3 : (2 ^ 52 + 1) * (UU : Int) ≤ N * UU := Int.mul_le_mul_of_nonneg_right (by omega) (by omega)
  obtain ⟨n, hnn⟩ := half_dvd h.fi (by omega)
  have : n = N := by
    rw [hnn] at k1 k2
    rw [← Int.sub_mul] at k1 k2
    have a1 : n - N < 1 := by
      refine Int.lt_of_mul_lt_mul_right (a := (UU : Int)) ?_ (by omega)
      omega
    have a2 : -1 < n - N := by
      refine Int.lt_of_mul_lt_mul_right (a := (UU : Int)) ?_ (by omega)
      omega
    omega
  subst this
  refine ⟨h.fi, ?_⟩
  rw [hnn, TT_UUi]
  grind

theorem wrap_third {z r q : UInt64} {j : Int} (hj : 0 ≤ j ∧ j ≤ 281474976710656) (hz : Rd z (-j * TT) 1688849860263936) (hr : Rd r (val z + TT) 1) (hq : Rd q ((1688849860263936 - j) * TT) 1688849860263936) : val r = val q := by
  have T := TT_posI
  have U := UU_pos
  have cases3 : (∃ i, j = 3 * i) ∨ (∃ i, j = 3 * i + 1) ∨ ∃ i, j = 3 * i + 2 := by
    rcases (show j % 3 = 0 ∨ j % 3 = 1 ∨ j % 3 = 2 by omega) with h | h | h
    · exact .inl ⟨j / 3, by omega⟩
    · exact .inr (.inl ⟨j / 3, by omega⟩)
    · exact .inr (.inr ⟨j / 3, by omega⟩)
  rcases cases3 with ⟨i, rfl⟩ | ⟨i, rfl⟩ | ⟨i, rfl⟩
  · have iz : Is z (-i) 49 := (hz.in (K := -i) (J := -i) (e := 49) (by omega) (by omega) (by decide) (by apply Int.le_of_eq; grind) (by apply Int.le_of_eq; grind)).is
    have hv := iz.eq
    have ir : Is r (562949953421312 - i) 49 := (hr.in (K := 562949953421312 - i) (J := 562949953421312 - i) (e := 49) (by omega) (by omega) (by decide) (by apply Int.le_of_eq; grind) (by apply Int.le_of_eq; grind)).is
    have iq : Is q (562949953421312 - i) 49 := (hq.in (K := 562949953421312 - i) (J := 562949953421312 - i) (e := 49) (by omega) (by omega) (by decide) (by apply Int.le_of_eq; grind) (by apply Int.le_of_eq; grind)).is
    exact ir.val_eq iq
  · have iy := fl_is (K := -(64 * i + 21)) (e := 55) (by omega) (by decide)
    have vy := iy.eq
    have hn := hz.near iy.fi
    have iq : Is q (9007199254740992 - (16 * i + 5)) 53 := by
      refine hq.grid (by omega) (by omega) ?_
      rw [TT_UUi]
      have e : (1688849860263936 - (3 * i + 1)) * (9007199254740992 * (UU : Int)) - ((1688849860263936 : Nat) : Int) * ((9007199254740992 - (16 * i + 5)) * UU) = -(562949953421312 * UU) := by grind
      rw [e]
      omega
    have ir : Is r (9007199254740992 - (16 * i + 5)) 53 := by
      refine hr.grid (by omega) (by omega) ?_
      rw [TT_UUi] at *
      generalize hX : i * (UU : Int) = X at *
      have e1 : -(3 * i + 1) * (9007199254740992 * (UU : Int)) = -(27021597764222976 * X) - 9007199254740992 * UU := by rw [← hX]; grind
      have e2 : -(64 * i + 21) * (9007199254740992 * (UU : Int)) = -(576460752303423488 * X) - 189151184349560832 * UU := by rw [← hX]; grind
      have e3 : (9007199254740992 - (16 * i + 5)) * (UU : Int) = 9007199254740987 * UU - 16 * X := by rw [← hX]; grind
      rw [e1] at hn
      rw [e2] at vy
      rw [e3]
      omega
    exact ir.val_eq iq
  · have iy := fl_is (K := -(64 * i + 43)) (e := 55) (by omega) (by decide)
    have vy := iy.eq
    have hn := hz.near iy.fi
    have iq : Is q (9007199254740992 - (16 * i + 11)) 53 := by
      refine hq.grid (by omega) (by omega) ?_
      rw [TT_UUi]
      have e : (1688849860263936 - (3 * i + 2)) * (9007199254740992 * (UU : Int)) - ((1688849860263936 : Nat) : Int) * ((9007199254740992 - (16 * i + 11)) * UU) = 562949953421312 * UU := by grind
      rw [e]
      omega
    have ir : Is r (9007199254740992 - (16 * i + 11)) 53 := by
      refine hr.grid (by omega) (by omega) ?_
      rw [TT_UUi] at *
      generalize hX : i * (UU : Int) = X at *
      have e1 : -(3 * i + 2) * (9007199254740992 * (UU : Int)) = -(27021597764222976 * X) - 18014398509481984 * UU := by rw [← hX]; grind
      have e2 : -(64 * i + 43) * (9007199254740992 * (UU : Int)) = -(576460752303423488 * X) - 387309567953862656 * UU := by rw [← hX]; grind
      have e3 : (9007199254740992 - (16 * i + 11)) * (UU : Int) = 9007199254740981 * UU - 16 * X := by rw [← hX]; grind
      rw [e1] at hn
      rw [e2] at vy
      rw [e3]
      omega
    exact ir.val_eq iq

theorem six_is : Is 0x4018000000000000 6 0 := by
  have h : Is 4618441417868443648 (6 * 2 ^ 50) 50 := Is.of_decode (a := false) (m := 6 * 2 ^ 50) (ex := -50) (by kernel_rfl) 50 rfl (by decide)
  exact Is.down (e := 0) (k := 50) h
theorem six_val : val 0x4018000000000000 = 6 * TT := by have := six_is.eq; simpa using this
theorem Rd.ii {p q : Int} (hq : 0 < q) (hb : p.natAbs ≤ q.natAbs * 2 ^ 53) : Rd (divII p q) (p * TT) q.natAbs := by
  have : divII p q = ofFrac (decide (p < 0)) p.natAbs q.natAbs := by
    unfold divII
    have h : ¬ q < 0 := by omega
    simp [h]
  rw [this]
  exact Rd.frac (by omega) hb
theorem rd_div6 {h y : UInt64} (hf : Fi h) (hb : (val h).natAbs ≤ 2 ^ 53 * TT) (hy : Fi y) (hv : val y = 6 * TT) : Rd (div h y) (val h) 6 := by
  have T := TT_posI
  have := Rd.div hf hy (by omega) (by rw [hv, Int.natAbs_mul, Int.natAbs_natCast]; show _ ≤ 6 * TT * 2 ^ 53; generalize TT = K at *; omega)
  refine this.congr (by decide) ?_
  rw [hv]
  have : ((6 * (TT : Int)).toNat : Int) = 6 * TT := by omega
  rw [this]
  grind
theorem rd_six {h : UInt64} (hf : Fi h) (hb : (val h).natAbs ≤ 2 ^ 53 * TT) : Rd (div h 0x4018000000000000) (val h) 6 := rd_div6 hf hb six_is.fi six_val
end Mine
namespace Mine
open PySem PySem.Float64

theorem flt_is {x y : UInt64} {n m : Int} {e : Nat} (h : Is x n e) (k : Is y m e) : flt x y = decide (n < m) := by
  unfold flt
  rw [h.cmp k]
  simp only [compare, compareOfLessAndEq]
  by_cases h1 : n < m
  · simp [h1]
  · by_cases h2 : n = m
    · simp [h2]
    · simp [h1, h2]
theorem eq_is {x y : UInt64} {n m : Int} {e : Nat} (h : Is x n e) (k : Is y m e) : fcmp .Eq (Float64.cmp x y) = decide (n = m) := by
  rw [h.cmp k]
  simp only [fcmp, compare, compareOfLessAndEq]
  by_cases h1 : n < m
  · have : n ≠ m := by omega
    simp [h1, this]
  · by_cases h2 : n = m
    · simp [h2]
    · simp [h1, h2]
noncomputable def imin3 (a b c : Int) : Int := if b < a then (if c < b then c else b) else (if c < a then c else a)
theorem max_is {r g b : UInt64} {R G B : Int} {e : Nat} (hr : Is r R e) (hg : Is g G e) (hb : Is b B e) : Is (fmax3 r g b) (imax3 R G B) e := by
  unfold fmax3 imax3
  rw [flt_is hr hg, flt_is hg hb, flt_is hr hb]
  by_cases h1 : R < G <;> by_cases h2 : G < B <;> by_cases h3 : R < B <;> simp [h1, h2, h3] <;> assumption
theorem min_is {r g b : UInt64} {R G B : Int} {e : Nat} (hr : Is r R e) (hg : Is g G e) (hb : Is b B e) : Is (fmin3 r g b) (imin3 R G B) e := by
  unfold fmin3 imin3
  rw [flt_is hg hr, flt_is hb hg, flt_is hb hr]
  by_cases h1 : G < R <;> by_cases h2 : B < G <;> by_cases h3 : B < R <;> simp [h1, h2, h3] <;> assumption

noncomputable def hueOf (r g b M d : UInt64) : UInt64 :=
  if fcmp .Eq (Float64.cmp r M) then sub (div (sub M b) d) (div (sub M g) d)
  else if fcmp .Eq (Float64.cmp g M) then sub (add 0x4000000000000000 (div (sub M r) d)) (div (sub M b) d)
  else sub (add 0x4010000000000000 (div (sub M g) d)) (div (sub M r) d)
noncomputable def hueFin (h : UInt64) : UInt64 := (divmod (div h 0x4018000000000000) one).2
noncomputable def hsvOf (r g b : UInt64) : List AV :=
  if fcmp .Eq (Float64.cmp (fmin3 r g b) (fmax3 r g b)) then [.float 0, .float 0, .float (fmax3 r g b)]
  else [.float (hueFin (hueOf r g b (fmax3 r g b) (sub (fmax3 r g b) (fmin3 r g b)))), .float (div (sub (fmax3 r g b) (fmin3 r g b)) (fmax3 r g b)), .float (fmax3 r g b)]

theorem two_is : Is 0x4000000000000000 2 0 := by
  have h : Is 4611686018427387904 (2 * 2 ^ 51) 51 := Is.of_decode (a := false) (m := 2 * 2 ^ 51) (ex := -51) (by kernel_rfl) 51 rfl (by decide)
  exact Is.down (e := 0) (k := 51) h
theorem four_is : Is 0x4010000000000000 4 0 := by
  have h : Is 4616189618054758400 (4 * 2 ^ 50) 50 := Is.of_decode (a := false) (m := 4 * 2 ^ 50) (ex := -50) (by kernel_rfl) 50 rfl (by decide)
  exact Is.down (e := 0) (k := 50) h

theorem rd_quot {x d : UInt64} {p s : Int} {e : Nat} (hx : Is x p e) (hd : Is d s e) (hs : 0 < s) (hp : p.natAbs ≤ s.natAbs * 2 ^ 53) : Rd (div x d) (p * TT) s.natAbs := by
  have T := TT_posI
  have P := pow_pos_int e
  have hv : 0 < val d := by
    have h1 : 0 < val d * 2 ^ e := by rw [hd.eq]; exact Int.mul_pos hs T
    refine Int.lt_of_mul_lt_mul_right (a := 2 ^ e) ?_ (Int.le_of_lt P)
    rw [Int.zero_mul]; exact h1
  have e1 : (val x).natAbs * (2 ^ e : Int).natAbs = p.natAbs * TT := by
    have := congrArg Int.natAbs hx.eq
    rw [Int.natAbs_mul, Int.natAbs_mul] at this
    simpa using this
  have e2 : (val d).natAbs * (2 ^ e : Int).natAbs = s.natAbs * TT := by
    have := congrArg Int.natAbs hd.eq
    rw [Int.natAbs_mul, Int.natAbs_mul] at this
    simpa using this
  have hb : (val x).natAbs ≤ (val d).natAbs * 2 ^ 53 := by
    have hq : 0 < (2 ^ e : Int).natAbs := by (first | lia | omega)
    refine Nat.le_of_mul_le_mul_right ?_ hq
    calc (val x).natAbs * (2 ^ e : Int).natAbs = p.natAbs * TT := e1
      _ ≤ s.natAbs * 2 ^ 53 * TT := Nat.mul_le_mul_right _ hp
      _ = s.natAbs * TT * 2 ^ 53 := Nat.mul_right_comm _ _ _
      _ = (val d).natAbs * (2 ^ e : Int).natAbs * 2 ^ 53 := by rw [e2]
      _ = _ := Nat.mul_right_comm _ _ _
  refine (Rd.div hx.fi hd.fi hv hb).congr (by (first | lia | omega)) ?_
  have e3 : ((val d).toNat : Int) = val d := by (first | lia | omega)
  have e4 : ((s.natAbs : Nat) : Int) = s := by (first | lia | omega)
  rw [e3, e4]
  refine Int.eq_of_mul_eq_mul_right (Int.ne_of_gt P) ?_
  calc val x * TT * s * 2 ^ e = (val x * 2 ^ e) * (TT * s) := by grind
    _ = p * TT * (TT * s) := by rw [hx.eq]
    _ = p * TT * (s * TT) := by rw [Int.mul_comm s]
    _ = p * TT * (val d * 2 ^ e) := by rw [hd.eq]
    _ = _ := by grind
section
variable {p s F C : Int} {u d x : UInt64} {e : Nat}
end
end Mine
namespace Mine
open PySem PySem.Float64

end Mine
namespace Mine
open PySem PySem.Float64

theorem shift_val {x : UInt64} {a : Bool} {m : Nat} {e : Int} (hx : decode x = .fin a m e) : (shift m 1 e).1 * TT = (val x).natAbs * (shift m 1 e).2 ∧ 0 < (shift m 1 e).2 := by
  have h1 := shift_one m e 1074 (decode_ge hx)
  have h2 := val_natAbs hx
  refine ⟨?_, shift_pos _ _ _ (by decide)⟩
  rw [h2]
  exact h1
theorem floor_shift (m : Nat) (e : Int) : floorOf false m e = (((shift m 1 e).1 / (shift m 1 e).2 : Nat) : Int) := by
  unfold floorOf shift
  by_cases h : e ≥ 0
  · rw [if_pos h, if_pos h]
    simp [sgn]
  · rw [if_neg h, if_neg h]
    simp only [sgn, Bool.false_eq_true, if_false, Nat.one_mul]
    rw [Int.fdiv_eq_ediv_of_nonneg _ (Int.le_of_lt (pow_pos_int _))]
    simp
theorem trunc_at {x : UInt64} {c : Nat} (hx : Fi x) (h1 : (c : Int) * TT ≤ val x) (h2 : val x < ((c : Int) + 1) * TT) : Flt.toInt truncOf x = c := by
  obtain ⟨a, m, e, hd⟩ := hx
  have hv := val_sgn hd
  obtain ⟨h3, h4⟩ := shift_val hd
  have T := TT_pos
  have h0 : 0 ≤ val x := Int.le_trans (Int.mul_nonneg (by omega) (by omega)) h1
  have key : (shift m 1 e).1 / (shift m 1 e).2 = c := by
    generalize (shift m 1 e).1 = A at *
    generalize (shift m 1 e).2 = B at *
    have g1 : c * TT ≤ (val x).natAbs := by
      have : ((c * TT : Nat) : Int) = (c : Int) * TT := by simp
      omega
    have g2 : (val x).natAbs < (c + 1) * TT := by
      have : (((c + 1) * TT : Nat) : Int) = ((c : Int) + 1) * TT := by simp
      omega
    refine Nat.div_eq_of_lt_le ?_ ?_
    · refine Nat.le_of_mul_le_mul_right (c := TT) ?_ T
      calc c * B * TT = c * TT * B := Nat.mul_right_comm _ _ _
        _ ≤ (val x).natAbs * B := Nat.mul_le_mul_right _ g1
        _ = A * TT := h3.symm
    · refine Nat.lt_of_mul_lt_mul_right (a := TT) ?_
      calc A * TT = (val x).natAbs * B := h3
        _ < (c + 1) * TT * B := Nat.mul_lt_mul_of_pos_right g2 h4
        _ = (c + 1) * B * TT := Nat.mul_right_comm _ _ _
  rw [Flt.toInt_fin hd]
  unfold truncOf
  cases a with
  | false =>
    rw [if_neg (by decide), floor_shift, key]
  | true =>
    have hz : (val x).natAbs = 0 := by
      rw [hv] at h0
      simp only [sgn, if_true] at h0
      omega
    have hc : c = 0 := by
      rcases Nat.eq_zero_or_pos c with h | h
      · exact h
      · exfalso
        have : TT ≤ c * TT := Nat.le_mul_of_pos_left _ h
        have e : ((c * TT : Nat) : Int) = (c : Int) * TT := by simp
        omega
    have hk : (shift m 1 e).1 / (shift m 1 e).2 = 0 := by rw [key, hc]
    rw [if_pos rfl]
    unfold ceilOf
    show -floorOf false m e = _
    rw [floor_shift, hk, hc]
    rfl
end Mine
namespace Mine
open PySem PySem.Float64

end Mine
namespace Mine
open PySem PySem.Float64

theorem six_lo {h : UInt64} (hf : Fi h) (h0 : 0 ≤ val h) (h1 : val h ≤ 5 * TT) : 0 ≤ val (div h 0x4018000000000000) ∧ val (div h 0x4018000000000000) < TT ∧ 6 * val (div h 0x4018000000000000) ≤ 6 * TT := by
  have T := TT_pos
  have i := (rd_six hf (by omega)).in (K := 0) (J := 2 ^ 51 - 1) (e := 51) (by decide) (by decide) (by decide) (by omega) (by omega)
  have a := i.lo
  have b := i.hi
  omega
theorem fin1 {h : UInt64} (hf : Fi h) (h0 : 0 ≤ val h) (h1 : val h ≤ 5 * TT) : Fi (hueFin h) ∧ val (hueFin h) = val (div h 0x4018000000000000) := by
  have T := TT_pos
  obtain ⟨a, b, _⟩ := six_lo hf h0 h1
  have ry := rd_six hf (by omega)
  unfold hueFin
  have hm := (mod_one ry.fi).1 a
  rw [Int.emod_eq_of_lt a b] at hm
  exact hm
theorem fin2 {h : UInt64} (hf : Fi h) (h0 : -TT ≤ val h) (h1 : val h * 2 ^ 53 ≤ - TT) : Rd (hueFin h) (val (div h 0x4018000000000000) + TT) 1 ∧ (val (div h 0x4018000000000000) + TT).natAbs ≤ TT := by
  have T := TT_pos
  have ry := rd_six hf (by omega)
  have iy := ry.in (K := -(2 ^ 51 - 1)) (J := 0) (e := 51) (by decide) (by decide) (by decide) (by omega) (by omega)
  have if' := fl_is (K := -1) (e := 56) (by decide) (by decide)
  have if2 := if'.eq
  have iu : val (div h 0x4018000000000000) ≤ val (fl (-1) 56) := ry.le if'.fi (by
    show _ ≤ _ * ((6 : Nat) : Int)
    omega)
  have hl := iy.lo
  have hu := iy.hi
  unfold hueFin
  generalize div h 0x4018000000000000 = y at *
  have e : val y % TT = val y + TT := by
    rw [← Int.add_emod_right]
    exact Int.emod_eq_of_lt (by omega) (by omega)
  obtain ⟨g1, g2, g3⟩ := (mod_one ry.fi).2.2 (by omega) (by omega)
  rw [e] at g3
  have g3' : val (fmod y one) = val y := by omega
  refine ⟨?_, by omega⟩
  rw [g1]
  have := Rd.add g2 one_is.1 (by rw [one_is.2, g3']; unfold big; omega)
  rw [one_is.2, g3'] at this
  exact this
end Mine
namespace Mine
open PySem PySem.Float64


theorem V_grid {t j : Nat} (h : 2 ^ 52 * 2 ^ j ≤ V t) : ∃ M, V t = M * 2 ^ j ∧ (t % 2 = 0 → M % 2 = 0) := by
  unfold V at h ⊢
  by_cases hE : t / 2 ^ 52 = 0
  · rw [if_pos hE] at h
    have h1 : 1 ≤ 2 ^ j := Nat.two_pow_pos j
    have h2 : 2 ^ 52 * 1 ≤ 2 ^ 52 * 2 ^ j := Nat.mul_le_mul_left _ h1
    omega
  · rw [if_neg hE] at h ⊢
    have hm : t % 2 ^ 52 < 2 ^ 52 := Nat.mod_lt _ (by decide)
    have hj : j ≤ t / 2 ^ 52 - 1 := by
      apply Nat.le_of_lt_succ
      refine (Nat.pow_lt_pow_iff_right (a := 2) (by decide)).mp ?_
      have h3 : (2 ^ 52 + t % 2 ^ 52) * 2 ^ (t / 2 ^ 52 - 1) < 2 ^ 53 * 2 ^ (t / 2 ^ 52 - 1) := Nat.mul_lt_mul_of_pos_right (by omega) (Nat.two_pow_pos _)
      rw [Nat.pow_succ]
      generalize 2 ^ (t / 2 ^ 52 - 1) = A at *
      generalize (2 ^ 52 + t % 2 ^ 52) * A = B at *
      generalize 2 ^ j = C at *
      omega
    obtain ⟨d, hd⟩ := Nat.le.dest hj
    rw [← hd, Nat.pow_add]
    refine ⟨(2 ^ 52 + t % 2 ^ 52) * 2 ^ d, by ac_rfl, fun ht => ?_⟩
    cases d with
    | zero => omega
    | succ d =>
      rw [show (2 : Nat) ^ (d + 1) = 2 ^ d * 2 from Nat.pow_succ .., ← Nat.mul_assoc, Nat.mul_mod_left]
theorem tri_le (W a b : Nat) : b ≤ a + (dist W a + dist W b) := by unfold dist; omega
theorem tie_far {W a b c : Nat} (h1 : dist W a ≤ dist W b) (h2 : 2 * dist W b ≤ c) : (b ≤ a + c ∧ a ≤ b + c) ∧ ((a + c = b ∨ b + c = a) → dist W a = dist W b) := by
  have t1 := tri_le W a b
  have t2 := tri_le W b a
  generalize dist W a = x at *
  generalize dist W b = y at *
  refine ⟨⟨by omega, by omega⟩, fun h => Nat.le_antisymm h1 ?_⟩
  rcases h with h | h <;> omega
theorem near_tie {W D t t' N j : Nat} (hD : 0 < D) (h : Near W D t) (hN : N % 2 = 0) (h1 : 2 ^ 52 < N) (ht' : V t' = N * 2 ^ j) (hd : 2 * dist W (D * (N * 2 ^ j)) ≤ D * 2 ^ j) : V t = N * 2 ^ j := by
  have n := h t'
  rw [ht'] at n
  obtain ⟨⟨f1, f2⟩, f3⟩ := tie_far n.1 hd
  have g1 : N * 2 ^ j ≤ V t + 2 ^ j := Nat.le_of_mul_le_mul_left (by rw [Nat.mul_add]; exact f1) hD
  have g2 : V t ≤ N * 2 ^ j + 2 ^ j := Nat.le_of_mul_le_mul_left (by rw [Nat.mul_add]; exact f2) hD
  have hp : 0 < 2 ^ j := Nat.two_pow_pos j
  have hg : 2 ^ 52 * 2 ^ j ≤ V t := by
    have : (2 ^ 52 + 1) * 2 ^ j ≤ N * 2 ^ j := Nat.mul_le_mul_right _ h1
    rw [Nat.add_mul] at this
    omega
  obtain ⟨M, hM, hev⟩ := V_grid hg
  rw [hM] at g1 g2 ⊢
  have k1 : N ≤ M + 1 := Nat.le_of_mul_le_mul_right (by rw [Nat.add_mul, Nat.one_mul]; exact g1) hp
  have k2 : M ≤ N + 1 := Nat.le_of_mul_le_mul_right (by rw [Nat.add_mul, Nat.one_mul]; exact g2) hp
  by_cases e : M = N
  · rw [e]
  · exfalso
    have e2 : V t' ≠ V t := by
      rw [ht', hM]
      intro hh
      exact e (Nat.eq_of_mul_eq_mul_right hp hh).symm
    have e3 : M + 1 = N ∨ N + 1 = M := by omega
    have hdist : dist W (D * V t) = dist W (D * V t') := by
      rw [ht']
      refine f3 ?_
      rw [hM]
      rcases e3 with e3 | e3
      · left; rw [← e3, Nat.add_mul, Nat.one_mul, Nat.mul_add]
      · right; rw [← e3, Nat.add_mul, Nat.one_mul, Nat.mul_add]
    have := hev ((h t').2 e2 hdist)
    omega
theorem Rd.tie {r : UInt64} {W : Int} {D N j : Nat} (h : Rd r W D) (hN : N % 2 = 0) (h1 : 2 ^ 52 < N) (h2 : N ≤ 2 ^ 53) (hj : j ≤ 2000) (hW : 0 ≤ W) (hd : 2 * dist W.natAbs (D * (N * 2 ^ j)) ≤ D * 2 ^ j) : val r = ((N * 2 ^ j : Nat) : Int) := by
  obtain ⟨t, ht, hn, hv⟩ := h.at_
  obtain ⟨t', _, hv'⟩ := rep_of (q := N) (k := j) h2 hj
  rw [near_tie h.pos hn hN h1 hv' hd] at hv
  rw [hv, show decide (W < 0) = false by simp; omega]
  rfl
theorem six_tie {x r : UInt64} {N j : Nat} (hx : Rd x ((N * 2 ^ (j + 2) : Nat) : Int) 6) (hN : N % 2 = 0) (h1 : 2 ^ 52 < N) (h2 : N ≤ 2 ^ 53) (hj : j + 2 ≤ 2000) (hr : Rd r (6 * val x) 1) : val r = ((N * 2 ^ (j + 2) : Nat) : Int) := by
  have hp : 0 < 2 ^ j := Nat.two_pow_pos j
  obtain ⟨q, hq⟩ : ∃ q : Nat, 2 * N ≤ 3 * q + 1 ∧ 3 * q ≤ 2 * N + 1 := ⟨(2 * N + 1) / 3, by omega, by omega⟩
  obtain ⟨t', ht', hv'⟩ := rep_of (q := q) (k := j) (by omega) (by omega)
  obtain ⟨fy, vy⟩ := fi_pack (s := false) ht'
  have hn := hx.near fy
  rw [vy, hv'] at hn
  have e1 : ((N * 2 ^ (j + 2) : Nat) : Int) = 4 * (N : Int) * (2 ^ j : Nat) := by rw [Nat.pow_add]; push_cast; grind
  have e2 : sgn false (q * 2 ^ j) = (q : Int) * (2 ^ j : Nat) := by simp [sgn]
  have x0 : 0 ≤ val x := by
    have := hx.ge (val_zero false).1 (by rw [(val_zero false).2, Int.zero_mul]; omega)
    rw [(val_zero false).2] at this; exact this
  rw [e1, e2] at hn
  have hb : (4 * (N : Int) * (2 ^ j : Nat) - (6 : Nat) * ((q : Int) * (2 ^ j : Nat))).natAbs ≤ 2 * 2 ^ j := by
    have : 4 * (N : Int) * (2 ^ j : Nat) - (6 : Nat) * ((q : Int) * (2 ^ j : Nat)) = (4 * N - 6 * q) * (2 ^ j : Nat) := by grind
    rw [this, Int.natAbs_mul]
    exact Nat.mul_le_mul (by omega) (by simp)
  refine hr.tie hN h1 h2 hj (by omega) ?_
  have e3 : (N * 2 ^ (j + 2)) = 4 * N * 2 ^ j := by rw [Nat.pow_add]; grind
  rw [e3, Nat.pow_add]
  generalize hA : 2 ^ j = A at *
  generalize hB : 4 * N * A = B at *
  have e4 : 4 * (N : Int) * (A : Nat) = (B : Int) := by rw [← hB]; push_cast; rfl
  rw [e4] at hn hb
  generalize (6 : Nat) * ((q : Int) * (A : Nat)) = c at *
  unfold dist
  omega

end Mine
namespace Mine
open PySem PySem.Float64


theorem lift2 : ∀ (f m : Nat), 2 ^ 53 ≤ m * 2 ^ f → m ≤ 2 ^ 53 → ∃ i, i ≤ f ∧ 2 ^ 52 < m * 2 ^ i ∧ m * 2 ^ i ≤ 2 ^ 53
  | 0, m, h, h2 => ⟨0, Nat.le_refl _, by omega, by omega⟩
  | f + 1, m, h, h2 => by
    by_cases hm : 2 ^ 52 < m
    · exact ⟨0, Nat.zero_le _, by omega, by omega⟩
    · obtain ⟨i, h3, h4, h5⟩ := lift2 f (m * 2) (by rw [Nat.mul_assoc, ← Nat.pow_succ']; exact h) (by omega)
      refine ⟨i + 1, by omega, ?_, ?_⟩
      · rw [show (2 : Nat) ^ (i + 1) = 2 * 2 ^ i from Nat.pow_succ' .., ← Nat.mul_assoc]; exact h4
      · rw [show (2 : Nat) ^ (i + 1) = 2 * 2 ^ i from Nat.pow_succ' .., ← Nat.mul_assoc]; exact h5
theorem rd_zero {x : UInt64} {D : Nat} (h : Rd x 0 D) : val x = 0 := by
  have h1 := h.ge (val_zero false).1 (by rw [(val_zero false).2]; simp)
  have h2 := h.le (val_zero false).1 (by rw [(val_zero false).2]; simp)
  rw [(val_zero false).2] at h1 h2
  omega
end Mine
namespace Mine
open PySem PySem.Float64

section
variable {r g b : UInt64} {l m h F C : Int} {e : Nat}
theorem im1 (h1 : l ≤ m) (h2 : m ≤ h) : imax3 h m l = h ∧ imin3 h m l = l := by unfold imax3 imin3; constructor <;> (repeat' split) <;> omega
theorem im2 (h1 : l ≤ m) (h2 : m ≤ h) : imax3 m h l = h ∧ imin3 m h l = l := by unfold imax3 imin3; constructor <;> (repeat' split) <;> omega
theorem im3 (h1 : l ≤ m) (h2 : m ≤ h) : imax3 l h m = h ∧ imin3 l h m = l := by unfold imax3 imin3; constructor <;> (repeat' split) <;> omega
theorem im4 (h1 : l ≤ m) (h2 : m ≤ h) : imax3 l m h = h ∧ imin3 l m h = l := by unfold imax3 imin3; constructor <;> (repeat' split) <;> omega
theorem im5 (h1 : l ≤ m) (h2 : m ≤ h) : imax3 m l h = h ∧ imin3 m l h = l := by unfold imax3 imin3; constructor <;> (repeat' split) <;> omega
theorem im6 (h1 : l ≤ m) (h2 : m ≤ h) : imax3 h l m = h ∧ imin3 h l m = l := by unfold imax3 imin3; constructor <;> (repeat' split) <;> omega

structure Set3 (l m h : Int) (e : Nat) : Prop where
  l0 : 0 ≤ l
  lm : l ≤ m
  mh : m ≤ h
  lh : l < h
  h1 : h ≤ 2 ^ 53
  he : e ≤ 1074
variable (S : Set3 l m h e)
include S

end

section
variable {r g b : UInt64} {l m h : Int} {e : Nat}
end
end Mine
namespace Mine
open PySem PySem.Float64

noncomputable def pOf (M s : UInt64) : UInt64 := mul M (sub one s)
noncomputable def qOf (M s f : UInt64) : UInt64 := mul M (sub one (mul s f))
noncomputable def tOf (M s f : UInt64) : UInt64 := mul M (sub one (mul s (sub one f)))
noncomputable def sel (c : Nat) (v p q t : UInt64) : List UInt64 :=
  if c = 0 then [v, t, p] else if c = 1 then [q, v, p] else if c = 2 then [p, v, t] else if c = 3 then [p, q, v] else if c = 4 then [t, p, v] else [v, p, q]
end Mine
namespace Mine
open PySem PySem.Float64


theorem fi_fin {x : UInt64} (h : Fi x) : isFinite x = true := by
  obtain ⟨a, m, e, hd⟩ := h
  unfold isFinite
  rw [hd]
theorem ofInt_is {n : Int} (h : n.natAbs ≤ 2 ^ 53) : Is (ofInt n) n 0 := by
  have := Is.div (p := n) (q := 1) (n := n) (e := 0) (by decide) (by simp) h (by decide)
  simpa [ofInt] using this
theorem isZero_is {x : UInt64} {n : Int} {e : Nat} (h : Is x n e) (hn : 0 < n) : isZero x = false := by
  rw [isZero_val h.fi]
  have T := TT_posI
  have : 0 < n * TT := Int.mul_pos hn T
  rw [← h.eq] at this
  have : val x ≠ 0 := by rintro h0; rw [h0] at this; simp at this
  simp [this]
theorem zero_is : Is 0 0 0 := by
  have : Is (zero false) 0 0 := ⟨(val_zero false).1, by rw [(val_zero false).2]; simp⟩
  exact this
theorem cmp_eq {x y : UInt64} (hx : Fi x) (hy : Fi y) (h : val x = val y) : Float64.cmp x y = some .eq := by
  rw [cmp_val hx hy, h]
  simp [compare, compareOfLessAndEq]
noncomputable def selZ (c : Nat) (v p q t : Int) : List Int :=
  if c = 0 then [v, t, p] else if c = 1 then [q, v, p] else if c = 2 then [p, v, t] else if c = 3 then [p, q, v] else if c = 4 then [t, p, v] else [v, p, q]
end Mine
namespace Mine
open PySem PySem.Float64


theorem mul_in {x y X Y : Int} (h1 : 0 ≤ x ∧ x ≤ X) (h2 : 0 ≤ y ∧ y ≤ Y) : 0 ≤ x * y ∧ x * y ≤ X * Y := ⟨Int.mul_nonneg h1.1 h2.1, Int.mul_le_mul h1.2 h2.2 h2.1 (Int.le_trans h1.1 h1.2)⟩
theorem abs53 {x : Int} (h : 0 ≤ x ∧ x ≤ 2 ^ 48) : x.natAbs ≤ 2 ^ 53 := by omega
structure Four (l h m : Int) (v p q t : UInt64) : Prop where
  v : Is v h 48
  p : Is p l 48
  q : Is q (h - m) 48
  t : Is t (l + m) 48
theorem four {a b c : Nat} {P S V : Int} {f s v : UInt64} (habc : a + b + c = 48) (hP : 0 ≤ P ∧ P ≤ 2 ^ a) (hS : 0 ≤ S ∧ S ≤ 2 ^ b) (hV : 0 ≤ V ∧ V ≤ 2 ^ c) (jf : Is f P a) (js : Is s S b) (jv : Is v V c) :
    Four (V * (2 ^ b - S) * 2 ^ a) (V * 2 ^ (a + b)) (V * S * P) v (pOf v s) (qOf v s f) (tOf v s f) ∧ 0 ≤ V * (2 ^ b - S) * 2 ^ a ∧ 0 ≤ V * S * P ∧ V * S * P ≤ V * 2 ^ (a + b) - V * (2 ^ b - S) * 2 ^ a ∧ V * 2 ^ (a + b) ≤ 2 ^ 48 := by
  have A := pow_pos_int a
  have B := pow_pos_int b
  have C := pow_pos_int c
  have hab : (2 : Int) ^ (a + b) = 2 ^ a * 2 ^ b := Int.pow_add ..
  have habc' : (2 : Int) ^ 48 = 2 ^ a * 2 ^ b * 2 ^ c := by rw [← Int.pow_add, ← Int.pow_add, habc]
  have b1 : 0 ≤ 2 ^ b - S ∧ 2 ^ b - S ≤ 2 ^ b := by omega
  have b2 := mul_in hV b1
  have b3 := mul_in hS hP
  have b4 : 0 ≤ 2 ^ a - P ∧ 2 ^ a - P ≤ 2 ^ a := by omega
  have b5 := mul_in hS b4
  have hba : (2 : Int) ^ b * 2 ^ a = 2 ^ (b + a) := (Int.pow_add ..).symm
  rw [hba] at b3 b5
  have b6 : 0 ≤ 2 ^ (b + a) - S * P ∧ 2 ^ (b + a) - S * P ≤ 2 ^ (b + a) := by omega
  have b7 : 0 ≤ 2 ^ (b + a) - S * (2 ^ a - P) ∧ 2 ^ (b + a) - S * (2 ^ a - P) ≤ 2 ^ (b + a) := by omega
  have b8 := mul_in hV b6
  have b9 := mul_in hV b7
  have pw : ∀ k : Nat, k ≤ 48 → (2 : Int) ^ k ≤ 2 ^ 48 := fun k hk => by exact_mod_cast Nat.pow_le_pow_right (by decide) hk
  have c1 : (2 : Int) ^ c * 2 ^ b ≤ 2 ^ 48 := by rw [← Int.pow_add]; exact pw _ (by omega)
  have c2 : (2 : Int) ^ (b + a) ≤ 2 ^ 48 := pw _ (by omega)
  have c3 : (2 : Int) ^ c * 2 ^ (b + a) ≤ 2 ^ 48 := by rw [← Int.pow_add]; exact pw _ (by omega)
  have c4 := pw b (by omega)
  have c5 := pw a (by omega)
  have jp : Is (pOf v s) (V * (2 ^ b - S)) (c + b) := jv.mul ((one_Is b).sub js (by omega) (by omega)) (by omega) (by omega)
  have jq : Is (qOf v s f) (V * (2 ^ (b + a) - S * P)) (c + (b + a)) := jv.mul ((one_Is (b + a)).sub (js.mul jf (by omega) (by omega)) (by omega) (by omega)) (by omega) (by omega)
  have jt : Is (tOf v s f) (V * (2 ^ (b + a) - S * (2 ^ a - P))) (c + (b + a)) := jv.mul ((one_Is (b + a)).sub (js.mul ((one_Is a).sub jf (by omega) (by omega)) (by omega) (by omega)) (by omega) (by omega)) (by omega) (by omega)
  have d1 : V * (2 ^ (b + a) - S * P) = V * 2 ^ (a + b) - V * S * P := by rw [Nat.add_comm b a]; grind
  have d2 : V * (2 ^ (b + a) - S * (2 ^ a - P)) = V * (2 ^ b - S) * 2 ^ a + V * S * P := by rw [Nat.add_comm b a, hab]; grind
  have e1 : c + (b + a) = 48 := by omega
  have e2 : c + b + a = 48 := by omega
  have e3 : c + (a + b) = 48 := by omega
  rw [d1, e1] at jq
  rw [d2, e1] at jt
  have jv' := jv.up (a + b)
  have jp' := jp.up a
  rw [e3] at jv'
  rw [e2] at jp'
  have hl0 : 0 ≤ V * (2 ^ b - S) * 2 ^ a := Int.mul_nonneg b2.1 (Int.le_of_lt A)
  have hm0 : 0 ≤ V * S * P := by rw [Int.mul_assoc]; exact Int.mul_nonneg hV.1 b3.1
  refine ⟨⟨jv', jp', jq, jt⟩, hl0, hm0, ?_, ?_⟩
  · have : V * 2 ^ (a + b) - V * (2 ^ b - S) * 2 ^ a = V * S * 2 ^ a := by rw [hab]; grind
    rw [this]
    exact Int.mul_le_mul_of_nonneg_left hP.2 (Int.mul_nonneg hV.1 hS.1)
  · have := (mul_in hV ⟨Int.le_of_lt (pow_pos_int (a + b)), Int.le_refl _⟩).2
    rw [← Int.pow_add, e3] at this
    exact this

end Mine
namespace Mine
open PySem PySem.Float64


theorem six_backW {x : UInt64} {n a : Nat} (hx : Rd x ((n : Int) * TT) (6 * 2 ^ a)) (hn : n ≤ 2 ^ 52) (ha : a ≤ 48) : Is (mul x 0x4018000000000000) n a := by
  have T := TT_posI
  have A1 : 1 ≤ 2 ^ a := Nat.two_pow_pos a
  have i50 : Is (ofInt (2 ^ 50)) (2 ^ 50) 0 := ofInt_is (by decide)
  have v50 : val (ofInt (2 ^ 50)) = 2 ^ 50 * TT := by have := i50.eq; simpa using this
  have hb : (val x * val 0x4018000000000000).natAbs ≤ TT * big := by
    have hle : (n : Int) * TT ≤ 2 ^ 50 * TT * ((6 * 2 ^ a : Nat) : Int) := by
      have h6 : n ≤ 2 ^ 50 * (6 * 2 ^ a) := by omega
      have h7 : (n : Int) ≤ 2 ^ 50 * ((6 * 2 ^ a : Nat) : Int) := by exact_mod_cast h6
      have := Int.mul_le_mul_of_nonneg_right h7 (Int.le_of_lt T)
      grind
    have h1 := hx.le i50.fi (by rw [v50]; exact hle)
    have h0 := hx.ge (val_zero false).1 (by rw [(val_zero false).2, Int.zero_mul]; exact Int.mul_nonneg (by omega) (Int.le_of_lt T))
    rw [v50] at h1
    rw [(val_zero false).2] at h0
    rw [six_val, Int.natAbs_mul]
    have e1 : (val x).natAbs ≤ 2 ^ 50 * TT := by omega
    have e2 : (6 * (TT : Int)).natAbs = 6 * TT := by omega
    rw [e2]
    unfold big
    calc (val x).natAbs * (6 * TT) ≤ 2 ^ 50 * TT * (6 * TT) := Nat.mul_le_mul_right _ e1
      _ ≤ TT * (2 ^ 53 * TT) := by
        have : 2 ^ 50 * TT * (6 * TT) = (6 * 2 ^ 50) * (TT * TT) := by grind
        have h2 : TT * (2 ^ 53 * TT) = 2 ^ 53 * (TT * TT) := by grind
        rw [this, h2]
        exact Nat.mul_le_mul_right _ (by decide)
  have r := Rd.mul hx.fi six_is.fi hb
  have r' : Rd (mul x 0x4018000000000000) (6 * val x) 1 := r.congr (by decide) (by rw [six_val]; grind)
  refine ⟨r.fi, ?_⟩
  by_cases h0 : n = 0
  · subst h0
    have hx0 : val x = 0 := rd_zero (D := 6 * 2 ^ a) (by simpa using hx)
    rw [hx0] at r'
    rw [rd_zero (D := 1) (by simpa using r')]
    simp
  · obtain ⟨i, h1, h2, h3⟩ := lift2 53 n (by have : 1 * 2 ^ 53 ≤ n * 2 ^ 53 := Nat.mul_le_mul_right _ (by omega); omega) (by omega)
    have hi : 1 ≤ i := by
      apply Classical.byContradiction
      intro hc
      have : i = 0 := by omega
      subst this
      omega
    obtain ⟨j, hj⟩ : ∃ j, 1074 = a + i + (j + 2) := ⟨1072 - a - i, by omega⟩
    have eT : TT = 2 ^ a * 2 ^ i * 2 ^ (j + 2) := by unfold TT; rw [hj, Nat.pow_add, Nat.pow_add]
    have hx' : Rd x ((n * 2 ^ i * 2 ^ (j + 2) : Nat) : Int) 6 := hx.congr (by decide) (by
      rw [eT]; push_cast; grind)
    obtain ⟨k, rfl⟩ := Nat.le.dest hi
    have ev : n * 2 ^ (1 + k) % 2 = 0 := by rw [Nat.pow_add, show n * (2 ^ 1 * 2 ^ k) = 2 * (n * 2 ^ k) by grind, Nat.mul_mod_right]
    rw [six_tie hx' ev h2 h3 (by omega) r', eT]
    push_cast
    grind
theorem sixthW {x : UInt64} {c P a : Nat} (hx : Is (mul x 0x4018000000000000) ((c * 2 ^ a + P : Nat) : Int) a) (hP : P < 2 ^ a) (hc : c ≤ 2 ^ 52) (ha : a ≤ 48) :
    Flt.toInt truncOf (mul x 0x4018000000000000) = c ∧ Is (sub (mul x 0x4018000000000000) (ofInt c)) (P : Int) a := by
  have T := TT_posI
  have hA := pow_pos_int a
  have h1 := hx.eq
  have hP' : ((P : Nat) : Int) < 2 ^ a := by exact_mod_cast hP
  constructor
  · refine trunc_at hx.fi ?_ ?_
    · refine Int.le_of_mul_le_mul_right (a := 2 ^ a) ?_ hA
      rw [h1]
      have : (c : Int) * TT * 2 ^ a = (c * 2 ^ a) * TT := by grind
      rw [this]
      exact Int.mul_le_mul_of_nonneg_right (by push_cast; omega) (Int.le_of_lt T)
    · refine Int.lt_of_mul_lt_mul_right (a := 2 ^ a) ?_ (Int.le_of_lt hA)
      rw [h1]
      have : ((c : Int) + 1) * TT * 2 ^ a = (c * 2 ^ a + 2 ^ a) * TT := by grind
      rw [this]
      exact Int.mul_lt_mul_of_pos_right (by push_cast; omega) T
  · have i := hx.sub ((ofInt_is (n := (c : Int)) (by omega)).up a |> (by simpa using ·)) (by
      have : ((c * 2 ^ a + P : Nat) : Int) - c * 2 ^ a = P := by push_cast; omega
      rw [this]
      have : P < 2 ^ 48 := Nat.lt_of_lt_of_le hP (Nat.pow_le_pow_right (by decide) ha)
      omega) (by omega)
    rwa [show ((c * 2 ^ a + P : Nat) : Int) - c * 2 ^ a = P by push_cast; omega] at i
theorem sel_is {c e : Nat} {l h m : Int} {v p q t : UInt64} (iv : Is v h e) (ip : Is p l e) (iq : Is q (h - m) e) (it : Is t (l + m) e) :
    ∃ r g b R G B, (sel c v p q t = [r, g, b] ∧ selZ c h l (h - m) (l + m) = [R, G, B]) ∧ Is r R e ∧ Is g G e ∧ Is b B e := by
  unfold sel selZ
  by_cases c0 : c = 0
  · simp only [c0, if_true]; exact ⟨_, _, _, _, _, _, ⟨rfl, rfl⟩, iv, it, ip⟩
  by_cases c1 : c = 1
  · simp only [c1, if_true]; exact ⟨_, _, _, _, _, _, ⟨rfl, rfl⟩, iq, iv, ip⟩
  by_cases c2 : c = 2
  · simp only [c2, if_true]; exact ⟨_, _, _, _, _, _, ⟨rfl, rfl⟩, ip, iv, it⟩
  by_cases c3 : c = 3
  · simp only [c3, if_true]; exact ⟨_, _, _, _, _, _, ⟨rfl, rfl⟩, ip, iq, iv⟩
  by_cases c4 : c = 4
  · simp only [c4, if_true]; exact ⟨_, _, _, _, _, _, ⟨rfl, rfl⟩, it, ip, iv⟩
  simp only [c0, c1, c2, c3, c4, if_false]
  exact ⟨_, _, _, _, _, _, ⟨rfl, rfl⟩, iv, ip, iq⟩
theorem selZ_map (c : Nat) (v p q t l w : Int) : selZ c (l + w * v) (l + w * p) (l + w * q) (l + w * t) = (selZ c v p q t).map (fun n => l + w * n) := by
  unfold selZ
  repeat' split
  all_goals rfl
theorem selZ_in {c : Nat} {A P x : Int} (hA : 0 ≤ A) (hP : 0 ≤ P ∧ P ≤ A) (hx : x ∈ selZ c A 0 (A - P) P) : 0 ≤ x ∧ x ≤ A := by
  unfold selZ at hx
  repeat' split at hx
  all_goals
    simp only [List.mem_cons, List.not_mem_nil, or_false] at hx
    rcases hx with rfl | rfl | rfl <;> omega

theorem le5 : ∀ {c : Nat}, c ≤ 5 → c = 0 ∨ c = 1 ∨ c = 2 ∨ c = 3 ∨ c = 4 ∨ c = 5
  | 0, _ => .inl rfl
  | 1, _ => .inr (.inl rfl)
  | 2, _ => .inr (.inr (.inl rfl))
  | 3, _ => .inr (.inr (.inr (.inl rfl)))
  | 4, _ => .inr (.inr (.inr (.inr (.inl rfl))))
  | 5, _ => .inr (.inr (.inr (.inr (.inr rfl))))
  | n + 6, h => absurd h (by omega)
theorem in48 {x : Int} {e : Nat} (h : 0 ≤ x ∧ x ≤ 2 ^ e) (he : e ≤ 48) : 0 ≤ x ∧ x ≤ 2 ^ 48 := ⟨h.1, Int.le_trans h.2 (by exact_mod_cast Nat.pow_le_pow_right (by decide) he)⟩
theorem abs60 {x : Int} (h : 0 ≤ x ∧ x ≤ 2 ^ 48) : x.natAbs ≤ 2 ^ 60 := Nat.le_trans (abs53 h) (by decide)
theorem abs64 {x : Int} (h : 0 ≤ x ∧ x ≤ 2 ^ 48) : x.natAbs < 2 ^ 64 := Nat.lt_of_le_of_lt (abs53 h) (by decide)
end Mine
namespace Mine
open PySem PySem.Float64


theorem rd_is {r : UInt64} {W k : Int} {D e : Nat} (h : Rd r W D) (hk : k.natAbs ≤ 2 ^ 53) (he : e ≤ 1074) (heq : k * TT * D = W * 2 ^ e) : Is r k e := (h.in hk hk he (Int.le_of_eq heq) (Int.le_of_eq heq.symm)).is
theorem q_at {x d : UInt64} {X s Y : Int} {e a : Nat} (hx : Is x X e) (hd : Is d s e) (hs : 0 < s) (hX : 0 ≤ X ∧ X ≤ s) (ha : a ≤ 48) (hY : 0 ≤ Y ∧ Y ≤ 2 ^ a) (heq : X * 2 ^ a = Y * s) : Is (div x d) Y a := by
  have a48 : (2 : Int) ^ a ≤ 2 ^ 48 := by exact_mod_cast Nat.pow_le_pow_right (by decide) ha
  refine rd_is (rd_quot hx hd hs (by omega)) (by omega) (by omega) ?_
  have p1 : ((s.natAbs : Nat) : Int) = s := Int.natAbs_of_nonneg (by omega)
  rw [p1]
  have e1 : Y * TT * s = Y * s * TT := by grind
  have e2 : X * TT * 2 ^ a = X * 2 ^ a * TT := by grind
  rw [e1, e2, heq]
section
variable {R G B h D Yr Yg Yb : Int} {M d r g b : UInt64} {e a : Nat}
theorem hueOf_is (iM : Is M h e) (ir : Is r R e) (ig : Is g G e) (qr : Is (div (sub M r) d) Yr a) (qg : Is (div (sub M g) d) Yg a) (qb : Is (div (sub M b) d) Yb a) (yr : 0 ≤ Yr ∧ Yr ≤ 2 ^ a) (yg : 0 ≤ Yg ∧ Yg ≤ 2 ^ a) (yb : 0 ≤ Yb ∧ Yb ≤ 2 ^ a) (ha : a ≤ 48) :
    Is (hueOf r g b M d) (if R = h then Yb - Yg else if G = h then 2 * 2 ^ a + Yr - Yb else 4 * 2 ^ a + Yg - Yr) a := by
  have a48 : (2 : Int) ^ a ≤ 2 ^ 48 := by exact_mod_cast Nat.pow_le_pow_right (by decide) ha
  have A := pow_pos_int a
  have two : Is 0x4000000000000000 (2 * 2 ^ a) a := by simpa using two_is.up a
  have four : Is 0x4010000000000000 (4 * 2 ^ a) a := by simpa using four_is.up a
  unfold hueOf
  rw [eq_is ir iM, eq_is ig iM]
  by_cases c1 : R = h
  · simp only [c1, decide_true, if_true]
    exact qb.sub qg (by omega) (by omega)
  · simp only [c1, decide_false, Bool.false_eq_true, if_false]
    by_cases c2 : G = h
    · simp only [c2, decide_true, if_true]
      exact (two.add qr (by omega) (by omega)).sub qb (by omega) (by omega)
    · simp only [c2, decide_false, Bool.false_eq_true, if_false]
      exact (four.add qg (by omega) (by omega)).sub qr (by omega) (by omega)
end
theorem val_abs {q : UInt64} {n : Int} {a : Nat} (iq : Is q n a) (k : Int) (h : n ≤ k * 2 ^ a) : val q ≤ k * TT := by
  have A := pow_pos_int a
  have T := TT_posI
  refine Int.le_of_mul_le_mul_right (a := 2 ^ a) ?_ A
  rw [iq.eq]
  have := Int.mul_le_mul_of_nonneg_right h (Int.le_of_lt T)
  grind
theorem val_low {q : UInt64} {n : Int} {a : Nat} (iq : Is q n a) (k : Int) (h : k * 2 ^ a ≤ n) : k * TT ≤ val q := by
  have A := pow_pos_int a
  have T := TT_posI
  refine Int.le_of_mul_le_mul_right (a := 2 ^ a) ?_ A
  rw [iq.eq]
  have := Int.mul_le_mul_of_nonneg_right h (Int.le_of_lt T)
  grind
theorem fin_up {q x : UInt64} {n a : Nat} (iq : Is q (n : Int) a) (hn : (n : Int) ≤ 5 * 2 ^ a) (hx : Rd x ((n : Int) * TT) (6 * 2 ^ a)) : Fi (hueFin q) ∧ val (hueFin q) = val x := by
  have T := TT_posI
  have v0 := val_low iq 0 (by omega)
  have v1 := val_abs iq 5 hn
  obtain ⟨f, v⟩ := fin1 iq.fi (by omega) v1
  refine ⟨f, v.trans ?_⟩
  refine (rd_six iq.fi (by omega)).same hx ?_
  rw [show ((6 * 2 ^ a : Nat) : Int) = 6 * 2 ^ a by push_cast; rfl, ← iq.eq]
  generalize val q = v
  generalize (2 : Int) ^ a = A
  show v * (6 * A) = v * A * 6
  grind
theorem fin_dn {q x : UInt64} {j a : Nat} (iq : Is q (-(j : Int)) a) (hj : 1 ≤ j ∧ j ≤ 2 ^ a) (ha : a ≤ 48) (hx : Rd x ((6 * 2 ^ a - (j : Int)) * TT) (6 * 2 ^ a)) : Fi (hueFin q) ∧ val (hueFin q) = val x := by
  have T := TT_posI
  have A := pow_pos_int a
  obtain ⟨d, hd⟩ := Nat.le.dest ha
  have hj' : (j : Int) ≤ 2 ^ a := by exact_mod_cast hj.2
  have v0 := val_low iq (-1) (by omega)
  have v1 : val q * 2 ^ 53 ≤ -TT := by
    refine Int.le_of_mul_le_mul_right (a := 2 ^ a) ?_ A
    have e1 : val q * 2 ^ 53 * 2 ^ a = -(j : Int) * (2 ^ 53 * TT) := by rw [Int.mul_right_comm, iq.eq]; grind
    have e2 : -(TT : Int) * 2 ^ a = -(2 ^ a * TT) := by grind
    rw [e1, e2, Int.neg_mul]
    have a53 : (2 : Int) ^ a * TT ≤ 2 ^ 53 * TT := Int.mul_le_mul_of_nonneg_right (by exact_mod_cast Nat.pow_le_pow_right (by decide) (by omega)) (Int.le_of_lt T)
    have j1 : 1 * (2 ^ 53 * (TT : Int)) ≤ j * (2 ^ 53 * TT) := Int.mul_le_mul_of_nonneg_right (by omega) (by omega)
    omega
  obtain ⟨hr, _⟩ := fin2 iq.fi (by omega) v1
  refine ⟨hr.fi, ?_⟩
  have e48 : (2 : Int) ^ 48 = 2 ^ a * 2 ^ d := by rw [← Int.pow_add, hd]
  have eD : ((1688849860263936 : Nat) : Int) = 6 * (2 ^ a * 2 ^ d) := by rw [← e48]; decide
  have hz : Rd (div q 0x4018000000000000) (-((j : Int) * 2 ^ d) * TT) 1688849860263936 := (rd_six iq.fi (by have := val_abs iq 0 (by omega); omega)).congr (by decide) (by
    rw [eD]
    have := iq.eq
    have e : val q * (6 * (2 ^ a * 2 ^ d)) = val q * 2 ^ a * (6 * 2 ^ d) := by grind
    rw [e, this]
    push_cast
    grind)
  have hq : Rd x ((1688849860263936 - (j : Int) * 2 ^ d) * TT) 1688849860263936 := hx.congr (by decide) (by
    have e6 : (1688849860263936 : Int) = 6 * (2 ^ a * 2 ^ d) := eD
    rw [eD, e6]
    push_cast
    grind)
  refine wrap_third (j := (j : Int) * 2 ^ d) ⟨Int.mul_nonneg (by omega) (Int.le_of_lt (pow_pos_int d)), ?_⟩ hz hr hq
  have := Int.mul_le_mul_of_nonneg_right hj' (Int.le_of_lt (pow_pos_int d))
  rw [← e48] at this
  exact this
structure Hx (l h : Int) (e : Nat) (x r g b : UInt64) : Prop where
  hM : Is (fmax3 r g b) h e
  hm : Is (fmin3 r g b) l e
  hue : l < h → Fi (hueFin (hueOf r g b (fmax3 r g b) (sub (fmax3 r g b) (fmin3 r g b)))) ∧ val (hueFin (hueOf r g b (fmax3 r g b) (sub (fmax3 r g b) (fmin3 r g b)))) = val x
theorem hx_max {c : Nat} {l h m R G B : Int} (hm0 : 0 ≤ m) (hm : m ≤ h - l) (hs : selZ c h l (h - m) (l + m) = [R, G, B]) : imax3 R G B = h ∧ imin3 R G B = l := by
  have k1 : l ≤ l + m := by omega
  have k2 : l + m ≤ h := by omega
  have k3 : l ≤ h - m := by omega
  have k4 : h - m ≤ h := by omega
  unfold selZ at hs
  split at hs
  · cases hs; exact im1 k1 k2
  split at hs
  · cases hs; exact im2 k3 k4
  split at hs
  · cases hs; exact im3 k1 k2
  split at hs
  · cases hs; exact im4 k3 k4
  split at hs
  · cases hs; exact im5 k1 k2
  · cases hs; exact im6 k3 k4
noncomputable def Pr (l h m A P C Y : Int) : Prop := (C = h ∧ Y = 0) ∨ (C = l ∧ Y = A) ∨ (C = h - m ∧ Y = P) ∨ (C = l + m ∧ Y = A - P)
theorem sel_pr {c : Nat} {l h m A P R G B : Int} (hs : selZ c h l (h - m) (l + m) = [R, G, B]) : ∃ Yr Yg Yb, selZ c 0 A P (A - P) = [Yr, Yg, Yb] ∧ Pr l h m A P R Yr ∧ Pr l h m A P G Yg ∧ Pr l h m A P B Yb := by
  have p1 : Pr l h m A P h 0 := .inl ⟨rfl, rfl⟩
  have p2 : Pr l h m A P l A := .inr (.inl ⟨rfl, rfl⟩)
  have p3 : Pr l h m A P (h - m) P := .inr (.inr (.inl ⟨rfl, rfl⟩))
  have p4 : Pr l h m A P (l + m) (A - P) := .inr (.inr (.inr ⟨rfl, rfl⟩))
  unfold selZ at hs ⊢
  split at hs
  · cases hs; simp only [*, if_true]; exact ⟨_, _, _, rfl, p1, p4, p2⟩
  split at hs
  · cases hs; simp only [*, if_true, if_false]; exact ⟨_, _, _, rfl, p3, p1, p2⟩
  split at hs
  · cases hs; simp only [*, if_true, if_false]; exact ⟨_, _, _, rfl, p2, p1, p4⟩
  split at hs
  · cases hs; simp only [*, if_true, if_false]; exact ⟨_, _, _, rfl, p2, p3, p1⟩
  split at hs
  · cases hs; simp only [*, if_true, if_false]; exact ⟨_, _, _, rfl, p4, p2, p1⟩
  · cases hs; simp only [*, if_false]; exact ⟨_, _, _, rfl, p1, p2, p3⟩
theorem pr_at {l h m A P C Y : Int} (hA : 0 < A) (hP : 0 ≤ P ∧ P < A) (hm0 : 0 ≤ m) (hm : m ≤ h - l) (heq : m * A = P * (h - l)) (p : Pr l h m A P C Y) : (0 ≤ h - C ∧ h - C ≤ h - l) ∧ (0 ≤ Y ∧ Y ≤ A) ∧ (h - C) * A = Y * (h - l) := by
  rcases p with ⟨rfl, rfl⟩ | ⟨rfl, rfl⟩ | ⟨rfl, rfl⟩ | ⟨rfl, rfl⟩
  · exact ⟨by omega, by omega, by simp⟩
  · exact ⟨by omega, by omega, Int.mul_comm ..⟩
  · exact ⟨by omega, by omega, by rw [show h - (h - m) = m by omega]; exact heq⟩
  · exact ⟨by omega, by omega, by rw [show h - (l + m) = (h - l) - m by omega, Int.sub_mul (h - l) m, heq]; grind⟩
theorem hue_num {c : Nat} {l h m A P R G B Yr Yg Yb : Int} (hc : c ≤ 5) (hlt : l < h) (hm0 : 0 ≤ m) (hm : m < h - l) (mP : m = 0 → P = 0) (hs : selZ c h l (h - m) (l + m) = [R, G, B]) (hy : selZ c 0 A P (A - P) = [Yr, Yg, Yb]) :
    (if R = h then Yb - Yg else if G = h then 2 * A + Yr - Yb else 4 * A + Yg - Yr) = if c = 5 then P - A else c * A + P := by
  have key := le5 hc
  clear hc
  have n1 : ¬ l = h := by omega
  have n2 : ¬ l + m = h := by omega
  rcases key with rfl | rfl | rfl | rfl | rfl | rfl <;> cases hs <;> cases hy
  · rw [if_pos rfl, if_neg (by decide)]; omega
  · rw [if_neg (c := (1 = 5)) (by decide)]
    by_cases hh : h - m = h
    · have := mP (by omega); rw [if_pos hh]; omega
    · rw [if_neg hh, if_pos rfl]; omega
  · rw [if_neg n1, if_pos rfl, if_neg (by decide)]; omega
  · rw [if_neg n1, if_neg (c := (3 = 5)) (by decide)]
    by_cases hh : h - m = h
    · have := mP (by omega); rw [if_pos hh]; omega
    · rw [if_neg hh]; omega
  · rw [if_neg n2, if_neg n1, if_neg (by decide)]; omega
  · rw [if_pos rfl, if_pos rfl]
theorem hx_of {c e a P : Nat} {l h m R G B : Int} {r g b x : UInt64} (h0 : 0 ≤ l) (hm0 : 0 ≤ m) (hm : m ≤ h - l) (h3 : h ≤ 2 ^ 53) (he : e ≤ 1074) (hc : c ≤ 5) (ha : a ≤ 48) (hP : P < 2 ^ a) (heq : m * 2 ^ a = P * (h - l)) (hx : Rd x (((c * 2 ^ a + P : Nat) : Int) * TT) (6 * 2 ^ a))
    (hs : selZ c h l (h - m) (l + m) = [R, G, B]) (ir : Is r R e) (ig : Is g G e) (ib : Is b B e) : Hx l h e x r g b := by
  have mx := hx_max hm0 hm hs
  have iM : Is (fmax3 r g b) h e := by have := max_is ir ig ib; rwa [mx.1] at this
  have im : Is (fmin3 r g b) l e := by have := min_is ir ig ib; rwa [mx.2] at this
  clear mx
  refine ⟨iM, im, fun hlt => ?_⟩
  generalize fmax3 r g b = M at *
  generalize fmin3 r g b = n at *
  have A := pow_pos_int a
  have hP' : 0 ≤ (P : Int) ∧ (P : Int) < 2 ^ a := ⟨by omega, by exact_mod_cast hP⟩
  have iD : Is (sub M n) (h - l) e := iM.sub im (by omega) he
  obtain ⟨Yr, Yg, Yb, hy, p1, p2, p3⟩ := sel_pr (A := 2 ^ a) (P := P) hs
  have qt : ∀ (y : UInt64) (C Y : Int), Is y C e → Pr l h m (2 ^ a) P C Y → Is (div (sub M y) (sub M n)) Y a ∧ 0 ≤ Y ∧ Y ≤ 2 ^ a := by
    intro y C Y iy p
    obtain ⟨b1, b2, b3⟩ := pr_at A hP' hm0 hm heq p
    exact ⟨q_at (iM.sub iy (by omega) he) iD (by omega) b1 ha b2 b3, b2⟩
  obtain ⟨qr, yr⟩ := qt _ _ _ ir p1
  obtain ⟨qg, yg⟩ := qt _ _ _ ig p2
  obtain ⟨qb, yb⟩ := qt _ _ _ ib p3
  have mP : m = 0 → (P : Int) = 0 := fun hm => by
    rw [hm, Int.zero_mul] at heq
    rcases Int.mul_eq_zero.mp heq.symm with h | h <;> omega
  have mlt : m < h - l := by
    refine Int.lt_of_mul_lt_mul_right (a := 2 ^ a) ?_ (Int.le_of_lt A)
    rw [heq, Int.mul_comm (h - l)]
    exact Int.mul_lt_mul_of_pos_right hP'.2 (by omega)
  have i := hueOf_is iM ir ig qr qg qb yr yg yb ha
  rw [hue_num hc hlt hm0 mlt mP hs hy] at i
  clear qr qg qb yr yg yb qt p1 p2 p3 hy
  by_cases c5 : c = 5
  · rw [if_pos c5] at i
    obtain ⟨j, hj⟩ : ∃ j : Nat, P + j = 2 ^ a := ⟨2 ^ a - P, by omega⟩
    have hj' : (P : Int) + j = 2 ^ a := by exact_mod_cast hj
    rw [show (P : Int) - 2 ^ a = -(j : Int) by omega] at i
    refine fin_dn i ⟨by omega, by omega⟩ ha ?_
    have e1 : ((c * 2 ^ a + P : Nat) : Int) = 6 * 2 ^ a - j := by rw [c5]; push_cast; omega
    rwa [e1] at hx
  · rw [if_neg c5] at i
    have e1 : (c : Int) * 2 ^ a + P = ((c * 2 ^ a + P : Nat) : Int) := by push_cast; rfl
    rw [e1] at i
    refine fin_up i ?_ hx
    rw [← e1]
    have := Int.mul_le_mul_of_nonneg_right (show (c : Int) ≤ 4 by omega) (Int.le_of_lt A)
    omega

end Mine
namespace Mine
open PySem PySem.W PySem.Calls PyProof.Rows
noncomputable def K_lawfloats : Keys := ⟨["told"], ["isinstance", "float"], [], ["isinstance", "float"]⟩
noncomputable def B_lawfloats : PSs := .cons (.ret (.cmp .Eq (.comp (.loc 0) none [] [0, 1] (.loc 0) (.cons (.not (.call (.glob 0) (.cons (.loc 0) (.cons (.glob 1) (.nil))))) (.nil))) (.list (.nil))))
  (.nil)
noncomputable def gv_lawfloats : Nat → Option AV := fun j => ([.bi .isinstance, .typ .float] : List AV)[j]?
noncomputable def fns_lawfloats : Fns := noFns
noncomputable def K_hsvtorgb : Keys := ⟨["h", "s", "v", "i", "f", "p", "q", "t"], ["int"], [], []⟩
noncomputable def B_hsvtorgb : PSs := .cons (.ifs (.cmp .Eq (.loc 1) (.const (.float 0x0))) (.cons (.ret (.tuple (.cons (.loc 2) (.cons (.loc 2) (.cons (.loc 2) (.nil))))))
  (.nil)) (.nil))
  (.cons (.assign (.name 3) (.call (.glob 0) (.cons (.bin .Mult (.loc 0) (.const (.float 0x4018000000000000))) (.nil))))
  (.cons (.assign (.name 4) (.bin .Sub (.bin .Mult (.loc 0) (.const (.float 0x4018000000000000))) (.loc 3)))
  (.cons (.assign (.name 5) (.bin .Mult (.loc 2) (.bin .Sub (.const (.float 0x3ff0000000000000)) (.loc 1))))
  (.cons (.assign (.name 6) (.bin .Mult (.loc 2) (.bin .Sub (.const (.float 0x3ff0000000000000)) (.bin .Mult (.loc 1) (.loc 4)))))
  (.cons (.assign (.name 7) (.bin .Mult (.loc 2) (.bin .Sub (.const (.float 0x3ff0000000000000)) (.bin .Mult (.loc 1) (.bin .Sub (.const (.float 0x3ff0000000000000)) (.loc 4))))))
  (.cons (.assign (.name 3) (.bin .Mod (.loc 3) (.const (.int 6))))
  (.cons (.ifs (.cmp .Eq (.loc 3) (.const (.int 0))) (.cons (.ret (.tuple (.cons (.loc 2) (.cons (.loc 7) (.cons (.loc 5) (.nil))))))
  (.nil)) (.nil))
  (.cons (.ifs (.cmp .Eq (.loc 3) (.const (.int 1))) (.cons (.ret (.tuple (.cons (.loc 6) (.cons (.loc 2) (.cons (.loc 5) (.nil))))))
  (.nil)) (.nil))
  (.cons (.ifs (.cmp .Eq (.loc 3) (.const (.int 2))) (.cons (.ret (.tuple (.cons (.loc 5) (.cons (.loc 2) (.cons (.loc 7) (.nil))))))
  (.nil)) (.nil))
  (.cons (.ifs (.cmp .Eq (.loc 3) (.const (.int 3))) (.cons (.ret (.tuple (.cons (.loc 5) (.cons (.loc 6) (.cons (.loc 2) (.nil))))))
  (.nil)) (.nil))
  (.cons (.ifs (.cmp .Eq (.loc 3) (.const (.int 4))) (.cons (.ret (.tuple (.cons (.loc 7) (.cons (.loc 5) (.cons (.loc 2) (.nil))))))
  (.nil)) (.nil))
  (.cons (.ifs (.cmp .Eq (.loc 3) (.const (.int 5))) (.cons (.ret (.tuple (.cons (.loc 2) (.cons (.loc 5) (.cons (.loc 6) (.nil))))))
  (.nil)) (.nil))
  (.nil)))))))))))))
noncomputable def gv_hsvtorgb : Nat → Option AV := fun j => ([.typ .int] : List AV)[j]?
noncomputable def fns_hsvtorgb : Fns := noFns
noncomputable def K_rgbtohsv : Keys := ⟨["r", "g", "b", "maxc", "minc", "rangec", "v", "s", "rc", "gc", "bc", "h"], ["max", "min"], [], []⟩
noncomputable def B_rgbtohsv : PSs := .cons (.assign (.name 3) (.call (.glob 0) (.cons (.loc 0) (.cons (.loc 1) (.cons (.loc 2) (.nil))))))
  (.cons (.assign (.name 4) (.call (.glob 1) (.cons (.loc 0) (.cons (.loc 1) (.cons (.loc 2) (.nil))))))
  (.cons (.assign (.name 5) (.bin .Sub (.loc 3) (.loc 4)))
  (.cons (.assign (.name 6) (.loc 3))
  (.cons (.ifs (.cmp .Eq (.loc 4) (.loc 3)) (.cons (.ret (.tuple (.cons (.const (.float 0x0)) (.cons (.const (.float 0x0)) (.cons (.loc 6) (.nil))))))
  (.nil)) (.nil))
  (.cons (.assign (.name 7) (.bin .Div (.loc 5) (.loc 3)))
  (.cons (.assign (.name 8) (.bin .Div (.bin .Sub (.loc 3) (.loc 0)) (.loc 5)))
  (.cons (.assign (.name 9) (.bin .Div (.bin .Sub (.loc 3) (.loc 1)) (.loc 5)))
  (.cons (.assign (.name 10) (.bin .Div (.bin .Sub (.loc 3) (.loc 2)) (.loc 5)))
  (.cons (.ifs (.cmp .Eq (.loc 0) (.loc 3)) (.cons (.assign (.name 11) (.bin .Sub (.loc 10) (.loc 9)))
  (.nil)) (.cons (.ifs (.cmp .Eq (.loc 1) (.loc 3)) (.cons (.assign (.name 11) (.bin .Sub (.bin .Add (.const (.float 0x4000000000000000)) (.loc 8)) (.loc 10)))
  (.nil)) (.cons (.assign (.name 11) (.bin .Sub (.bin .Add (.const (.float 0x4010000000000000)) (.loc 9)) (.loc 8)))
  (.nil)))
  (.nil)))
  (.cons (.assign (.name 11) (.bin .Mod (.bin .Div (.loc 11) (.const (.float 0x4018000000000000))) (.const (.float 0x3ff0000000000000))))
  (.cons (.ret (.tuple (.cons (.loc 11) (.cons (.loc 7) (.cons (.loc 6) (.nil))))))
  (.nil))))))))))))
noncomputable def gv_rgbtohsv : Nat → Option AV := fun j => ([.bi .max, .bi .min] : List AV)[j]?
noncomputable def fns_rgbtohsv : Fns := noFns
noncomputable def K_law : Keys := ⟨["script", "first", "a", "b", "c", "cells", "k", "place", "turns", "s", "v", "least", "steps", "gone", "who", "way", "there", "due", "hue", "told", "back", "wanted"], ["range", "len", "list", "tuple", "hsv_to_rgb", "_law_floats", "rgb_to_hsv"], ["least", "v", "s"], []⟩
noncomputable def B_law_1 : PSs := .cons (.assign (.name 16) (.call (.glob 2) (.cons (.loc 12) (.nil))))
  (.cons (.augSub (.loc 16) (.loc 14) .Add (.bin .Mult (.loc 15) (.loc 7)))
  (.cons (.assign (.name 17) (.call (.glob 3) (.cons (.comp (.bin .Div (.bin .Add (.loc 1) (.bin .Mult (.bin .Mult (.loc 2) (.loc 3)) (.loc 0))) (.bin .Pow (.const (.int 2)) (.const (.int 48)))) none [11, 10, 9] [] (.loc 16) (.nil)) (.nil))))
  (.cons (.assign (.name 18) (.bin .Div (.bin .Add (.bin .Add (.bin .Mult (.bin .Mult (.loc 8) (.const (.int 6))) (.bin .Pow (.const (.int 2)) (.loc 2))) (.loc 13)) (.loc 7)) (.bin .Mult (.const (.int 6)) (.bin .Pow (.const (.int 2)) (.loc 2)))))
  (.cons (.assign (.name 19) (.call (.glob 4) (.cons (.loc 18) (.cons (.bin .Div (.loc 9) (.bin .Pow (.const (.int 2)) (.loc 3))) (.cons (.bin .Div (.loc 10) (.bin .Pow (.const (.int 2)) (.loc 4))) (.nil))))))
  (.cons (.ifs (.bools false (.cons (.cmp .NotEq (.loc 19) (.loc 17)) (.cons (.not (.call (.glob 5) (.cons (.loc 19) (.nil)))) (.nil)))) (.cons (.ret (.const (.bool false)))
  (.nil)) (.nil))
  (.cons (.assign (.name 20) (.call (.glob 6) (.cons (.sub (.loc 17) (.const (.int 0))) (.cons (.sub (.loc 17) (.const (.int 1))) (.cons (.sub (.loc 17) (.const (.int 2))) (.nil))))))
  (.cons (.assign (.name 21) (.tuple (.cons (.const (.float 0x0)) (.cons (.const (.float 0x0)) (.cons (.bin .Div (.loc 10) (.bin .Pow (.const (.int 2)) (.loc 4))) (.nil))))))
  (.cons (.ifs (.bools true (.cons (.cmp .NotEq (.loc 9) (.const (.int 0))) (.cons (.cmp .NotEq (.loc 10) (.const (.int 0))) (.nil)))) (.cons (.assign (.name 21) (.tuple (.cons (.bin .Div (.bin .Add (.loc 13) (.loc 7)) (.bin .Mult (.const (.int 6)) (.bin .Pow (.const (.int 2)) (.loc 2)))) (.cons (.bin .Div (.loc 9) (.bin .Pow (.const (.int 2)) (.loc 3))) (.cons (.bin .Div (.loc 10) (.bin .Pow (.const (.int 2)) (.loc 4))) (.nil))))))
  (.nil)) (.nil))
  (.cons (.ifs (.bools false (.cons (.cmp .NotEq (.loc 20) (.loc 21)) (.cons (.not (.call (.glob 5) (.cons (.loc 20) (.nil)))) (.nil)))) (.cons (.ret (.const (.bool false)))
  (.nil)) (.nil))
  (.cons (.augSub (.loc 12) (.loc 14) .Add (.bin .Mult (.loc 15) (.bin .Pow (.const (.int 2)) (.loc 2))))
  (.cons (.aug 13 .Add (.bin .Pow (.const (.int 2)) (.loc 2)))
  (.nil))))))))))))
noncomputable def B_law_2 : PSs := .cons (.assign (.name 7) (.bin .Mod (.sub (.loc 5) (.loc 6)) (.bin .Pow (.const (.int 2)) (.loc 2))))
  (.cons (.assign (.name 8) (.bin .Mod (.bin .FloorDiv (.sub (.loc 5) (.loc 6)) (.bin .Pow (.const (.int 2)) (.loc 2))) (.bin .FloorDiv (.bin .Pow (.const (.int 2)) (.bin .Sub (.const (.int 51)) (.loc 2))) (.const (.int 3)))))
  (.cons (.assign (.name 9) (.bin .Mod (.bin .Sub (.bin .Pow (.const (.int 2)) (.loc 3)) (.sub (.loc 5) (.bin .Add (.loc 6) (.const (.int 1))))) (.bin .Add (.bin .Pow (.const (.int 2)) (.loc 3)) (.const (.int 1)))))
  (.cons (.assign (.name 10) (.bin .Mod (.bin .Sub (.bin .Pow (.const (.int 2)) (.loc 4)) (.sub (.loc 5) (.bin .Add (.loc 6) (.const (.int 2))))) (.bin .Add (.bin .Pow (.const (.int 2)) (.loc 4)) (.const (.int 1)))))
  (.cons (.assign (.name 11) (.bin .Mult (.bin .Mult (.loc 10) (.bin .Sub (.bin .Pow (.const (.int 2)) (.loc 3)) (.loc 9))) (.bin .Pow (.const (.int 2)) (.loc 2))))
  (.cons (.assign (.name 12) (.list (.cons (.bin .Pow (.const (.int 2)) (.loc 2)) (.cons (.const (.int 0)) (.cons (.const (.int 0)) (.nil))))))
  (.cons (.assign (.name 13) (.const (.int 0)))
  (.cons (.for_ (.tup [14, 15]) (.list (.cons (.tuple (.cons (.const (.int 1)) (.cons (.const (.int 1)) (.nil)))) (.cons (.tuple (.cons (.const (.int 0)) (.cons (.neg (.const (.int 1))) (.nil)))) (.cons (.tuple (.cons (.const (.int 2)) (.cons (.const (.int 1)) (.nil)))) (.cons (.tuple (.cons (.const (.int 1)) (.cons (.neg (.const (.int 1))) (.nil)))) (.cons (.tuple (.cons (.const (.int 0)) (.cons (.const (.int 1)) (.nil)))) (.cons (.tuple (.cons (.const (.int 2)) (.cons (.neg (.const (.int 1))) (.nil)))) (.nil)))))))) B_law_1)
  (.nil))))))))
noncomputable def B_law : PSs := .cons (.assign (.name 0) (.slTo (.loc 0) (.const (.int 63))))
  (.cons (.assign (.name 1) (.ite (.cmp .NotEq (.loc 0) (.list (.nil))) (.sub (.loc 0) (.const (.int 0))) (.const (.int 0))))
  (.cons (.assign (.name 2) (.bin .Mod (.bin .Add (.const (.int 16)) (.loc 1)) (.const (.int 49))))
  (.cons (.assign (.name 3) (.bin .Mod (.bin .Add (.const (.int 16)) (.bin .FloorDiv (.loc 1) (.const (.int 49)))) (.bin .Sub (.const (.int 49)) (.loc 2))))
  (.cons (.assign (.name 4) (.bin .Sub (.bin .Sub (.const (.int 48)) (.loc 2)) (.loc 3)))
  (.cons (.assign (.name 5) (.bin .Add (.bin .Add (.list (.cons (.const (.int 12345)) (.cons (.const (.int 23458)) (.cons (.const (.int 34570)) (.cons (.bin .Pow (.const (.int 2)) (.loc 2)) (.cons (.const (.int 23458)) (.cons (.const (.int 34570)) (.cons (.const (.int 1)) (.cons (.neg (.const (.int 1))) (.cons (.const (.int 34570)) (.cons (.const (.int 1)) (.cons (.const (.int 23458)) (.cons (.neg (.const (.int 1))) (.nil)))))))))))))) (.slFrom (.loc 0) (.const (.int 1)))) (.list (.cons (.const (.int 0)) (.cons (.const (.int 0)) (.nil))))))
  (.cons (.for_ (.name 6) (.call (.glob 0) (.cons (.const (.int 0)) (.cons (.bin .Sub (.call (.glob 1) (.cons (.loc 5) (.nil))) (.const (.int 2))) (.cons (.const (.int 3)) (.nil))))) B_law_2)
  (.cons (.ret (.const (.bool true)))
  (.nil))))))))
noncomputable def gv_law : Nat → Option AV := fun j => ([.typ .range, .bi .len, .typ .list, .typ .tuple, .fn 1, .fn 0, .fn 2] : List AV)[j]?
noncomputable def fns_law : Fns := fun k args objs Q => (k = 1 ∧ fnW gv_hsvtorgb fns_hsvtorgb 3 B_hsvtorgb args objs Q) ∨ (k = 0 ∧ fnW gv_lawfloats fns_lawfloats 1 B_lawfloats args objs Q) ∨ (k = 2 ∧ fnW gv_rgbtohsv fns_rgbtohsv 3 B_rgbtohsv args objs Q)
theorem some_lawfloats : ((recsOf hd08.view_39).find? (fun e => e.name == ("_law_floats" : Str))).isSome = true := by decide +kernel
noncomputable def d_lawfloats : DefRec := ((recsOf hd08.view_39).find? (fun e => e.name == ("_law_floats" : Str))).get some_lawfloats
theorem d_lawfloats_name : d_lawfloats.name = "_law_floats" := by decide +kernel
theorem def_lawfloats (P : PF) (hp : P.p = hd08.view_39) : DefIs P d_lawfloats 1 K_lawfloats B_lawfloats where
  mem := by rw [hp]; exact List.mem_of_find?_eq_some (Option.some_get some_lawfloats).symm
  body := by decide +kernel
  nodup := by decide +kernel
  params := by
    intro vals hv pm cdv doc
    match vals, hv with
    | [a], _ => kernel_rfl
  hnp := by decide +kernel
  plain := by decide +kernel
  locs := by decide +kernel
  globs := by decide +kernel
  kind := by decide +kernel
  gen := by decide +kernel
  co := by decide +kernel
  cells := ⟨by decide +kernel, by decide +kernel⟩
theorem some_hsvtorgb : ((recsOf hd08.view_39).find? (fun e => e.name == ("hsv_to_rgb" : Str))).isSome = true := by decide +kernel
noncomputable def d_hsvtorgb : DefRec := ((recsOf hd08.view_39).find? (fun e => e.name == ("hsv_to_rgb" : Str))).get some_hsvtorgb
theorem d_hsvtorgb_name : d_hsvtorgb.name = "hsv_to_rgb" := by decide +kernel
theorem def_hsvtorgb (P : PF) (hp : P.p = hd08.view_39) : DefIs P d_hsvtorgb 3 K_hsvtorgb B_hsvtorgb where
  mem := by rw [hp]; exact List.mem_of_find?_eq_some (Option.some_get some_hsvtorgb).symm
  body := by decide +kernel
  nodup := by decide +kernel
  params := by
    intro vals hv pm cdv doc
    match vals, hv with
    | [a, b, c], _ => kernel_rfl
  hnp := by decide +kernel
  plain := by decide +kernel
  locs := by decide +kernel
  globs := by decide +kernel
  kind := by decide +kernel
  gen := by decide +kernel
  co := by decide +kernel
  cells := ⟨by decide +kernel, by decide +kernel⟩
theorem some_rgbtohsv : ((recsOf hd08.view_39).find? (fun e => e.name == ("rgb_to_hsv" : Str))).isSome = true := by decide +kernel
noncomputable def d_rgbtohsv : DefRec := ((recsOf hd08.view_39).find? (fun e => e.name == ("rgb_to_hsv" : Str))).get some_rgbtohsv
theorem d_rgbtohsv_name : d_rgbtohsv.name = "rgb_to_hsv" := by decide +kernel
theorem def_rgbtohsv (P : PF) (hp : P.p = hd08.view_39) : DefIs P d_rgbtohsv 3 K_rgbtohsv B_rgbtohsv where
  mem := by rw [hp]; exact List.mem_of_find?_eq_some (Option.some_get some_rgbtohsv).symm
  body := by decide +kernel
  nodup := by decide +kernel
  params := by
    intro vals hv pm cdv doc
    match vals, hv with
    | [a, b, c], _ => kernel_rfl
  hnp := by decide +kernel
  plain := by decide +kernel
  locs := by decide +kernel
  globs := by decide +kernel
  kind := by decide +kernel
  gen := by decide +kernel
  co := by decide +kernel
  cells := ⟨by decide +kernel, by decide +kernel⟩
structure Facts (P : PF) (fa : FA) : Prop where
  g_lawfloats : GOK P fa K_lawfloats.globs gv_lawfloats
  g_hsvtorgb : GOK P fa K_hsvtorgb.globs gv_hsvtorgb
  g_rgbtohsv : GOK P fa K_rgbtohsv.globs gv_rgbtohsv
  g_law : GOK P fa K_law.globs gv_law
  at_lawfloats : P.mg d_lawfloats.name = some (.ref (fa.addr 0))
  at_hsvtorgb : P.mg d_hsvtorgb.name = some (.ref (fa.addr 1))
  at_rgbtohsv : P.mg d_rgbtohsv.name = some (.ref (fa.addr 2))
  p : P.p = hd08.view_39
theorem facts {prog : Program} {w : World} {mean : ExcName → Option Value} {mg mb : Str → Option Value} {h : Heap}
    (T : Top hd08.view_39 (looseW hd08.view_39 []) mean mg mb h) (V : LooseAre [] mg h) :
    Facts ⟨prog, w, hd08.view_39, looseW hd08.view_39 [], mean, mg, mb⟩ (faOf mg h ["_law_floats", "hsv_to_rgb", "rgb_to_hsv"]) := by
  have h_lawfloats := fa_at T (def_lawfloats ⟨prog, w, hd08.view_39, [], mean, mg, mb⟩ rfl).mem (names := ["_law_floats", "hsv_to_rgb", "rgb_to_hsv"]) (k := 0) (by rw [d_lawfloats_name]; rfl)
  have h_hsvtorgb := fa_at T (def_hsvtorgb ⟨prog, w, hd08.view_39, [], mean, mg, mb⟩ rfl).mem (names := ["_law_floats", "hsv_to_rgb", "rgb_to_hsv"]) (k := 1) (by rw [d_hsvtorgb_name]; rfl)
  have h_rgbtohsv := fa_at T (def_rgbtohsv ⟨prog, w, hd08.view_39, [], mean, mg, mb⟩ rfl).mem (names := ["_law_floats", "hsv_to_rgb", "rgb_to_hsv"]) (k := 2) (by rw [d_rgbtohsv_name]; rfl)
  refine ⟨?_, ?_, ?_, ?_, h_lawfloats.1, h_hsvtorgb.1, h_rgbtohsv.1, rfl⟩
  · refine ⟨fun j x v hx hg => ?_⟩
    match j, hx, hg with
    | 0, hx, hg => cases hx; cases hg; exact ⟨by decide +kernel, .builtin "isinstance", rfl, .inr (glob_bi T (v := .builtin "isinstance") (by decide +kernel) (by decide +kernel) (by decide +kernel) (by decide +kernel) (by decide +kernel) (by decide +kernel) (by decide +kernel))⟩
    | 1, hx, hg => cases hx; cases hg; exact ⟨by decide +kernel, .type "float", rfl, .inr (glob_bi T (v := .type "float") (by decide +kernel) (by decide +kernel) (by decide +kernel) (by decide +kernel) (by decide +kernel) (by decide +kernel) (by decide +kernel))⟩
    | j + 2, hx, hg => cases hg
  · refine ⟨fun j x v hx hg => ?_⟩
    match j, hx, hg with
    | 0, hx, hg => cases hx; cases hg; exact ⟨by decide +kernel, .type "int", rfl, .inr (glob_bi T (v := .type "int") (by decide +kernel) (by decide +kernel) (by decide +kernel) (by decide +kernel) (by decide +kernel) (by decide +kernel) (by decide +kernel))⟩
    | j + 1, hx, hg => cases hg
  · refine ⟨fun j x v hx hg => ?_⟩
    match j, hx, hg with
    | 0, hx, hg => cases hx; cases hg; exact ⟨by decide +kernel, .builtin "max", rfl, .inr (glob_bi T (v := .builtin "max") (by decide +kernel) (by decide +kernel) (by decide +kernel) (by decide +kernel) (by decide +kernel) (by decide +kernel) (by decide +kernel))⟩
    | 1, hx, hg => cases hx; cases hg; exact ⟨by decide +kernel, .builtin "min", rfl, .inr (glob_bi T (v := .builtin "min") (by decide +kernel) (by decide +kernel) (by decide +kernel) (by decide +kernel) (by decide +kernel) (by decide +kernel) (by decide +kernel))⟩
    | j + 2, hx, hg => cases hg
  · refine ⟨fun j x v hx hg => ?_⟩
    match j, hx, hg with
    | 0, hx, hg => cases hx; cases hg; exact ⟨by decide +kernel, .type "range", rfl, .inr (glob_bi T (v := .type "range") (by decide +kernel) (by decide +kernel) (by decide +kernel) (by decide +kernel) (by decide +kernel) (by decide +kernel) (by decide +kernel))⟩
    | 1, hx, hg => cases hx; cases hg; exact ⟨by decide +kernel, .builtin "len", rfl, .inr (glob_bi T (v := .builtin "len") (by decide +kernel) (by decide +kernel) (by decide +kernel) (by decide +kernel) (by decide +kernel) (by decide +kernel) (by decide +kernel))⟩
    | 2, hx, hg => cases hx; cases hg; exact ⟨by decide +kernel, .type "list", rfl, .inr (glob_bi T (v := .type "list") (by decide +kernel) (by decide +kernel) (by decide +kernel) (by decide +kernel) (by decide +kernel) (by decide +kernel) (by decide +kernel))⟩
    | 3, hx, hg => cases hx; cases hg; exact ⟨by decide +kernel, .type "tuple", rfl, .inr (glob_bi T (v := .type "tuple") (by decide +kernel) (by decide +kernel) (by decide +kernel) (by decide +kernel) (by decide +kernel) (by decide +kernel) (by decide +kernel))⟩
    | 4, hx, hg => cases hx; cases hg; refine ⟨by decide +kernel, .ref _, ⟨rfl, h_hsvtorgb.2⟩, .inl ?_⟩; have := h_hsvtorgb.1; rw [d_hsvtorgb_name] at this; exact this
    | 5, hx, hg => cases hx; cases hg; refine ⟨by decide +kernel, .ref _, ⟨rfl, h_lawfloats.2⟩, .inl ?_⟩; have := h_lawfloats.1; rw [d_lawfloats_name] at this; exact this
    | 6, hx, hg => cases hx; cases hg; refine ⟨by decide +kernel, .ref _, ⟨rfl, h_rgbtohsv.2⟩, .inl ?_⟩; have := h_rgbtohsv.1; rw [d_rgbtohsv_name] at this; exact this
    | j + 7, hx, hg => cases hg
theorem ok_lawfloats {P : PF} {fa : FA} (X : Facts P fa) (r : Nat) : ∀ C : Cx, C.K = K_lawfloats → C.gval = gv_lawfloats → C.fns = fns_lawfloats → C.fa = fa → FrameOf P C (r + 0) → (∀ x, C.env.kindOf x = d_lawfloats.scope.names.lookup x) → (∃ b names, C.env.cells = cellsFrom b names [] ∧ CellsOk C.K names) → CxOK C := by
  intro C hK hgv hf hfa Fo hk hc
  have D := def_lawfloats P X.p
  refine frame_ok Fo (by rw [hK, hgv, hfa]; exact X.g_lawfloats) (by rw [hK]; exact D.nodup) (by rw [hK]; intro x hx; rw [hk]; exact D.locs x hx) (by rw [hK]; intro x hx hf; rw [hk]; exact D.globs x hx hf) hc ?_
  intro fz k args cargs σ Q s m ad news T R ra q
  rw [hf] at q
  exact q.elim
theorem ok_hsvtorgb {P : PF} {fa : FA} (X : Facts P fa) (r : Nat) : ∀ C : Cx, C.K = K_hsvtorgb → C.gval = gv_hsvtorgb → C.fns = fns_hsvtorgb → C.fa = fa → FrameOf P C (r + 0) → (∀ x, C.env.kindOf x = d_hsvtorgb.scope.names.lookup x) → (∃ b names, C.env.cells = cellsFrom b names [] ∧ CellsOk C.K names) → CxOK C := by
  intro C hK hgv hf hfa Fo hk hc
  have D := def_hsvtorgb P X.p
  refine frame_ok Fo (by rw [hK, hgv, hfa]; exact X.g_hsvtorgb) (by rw [hK]; exact D.nodup) (by rw [hK]; intro x hx; rw [hk]; exact D.locs x hx) (by rw [hK]; intro x hx hf; rw [hk]; exact D.globs x hx hf) hc ?_
  intro fz k args cargs σ Q s m ad news T R ra q
  rw [hf] at q
  exact q.elim
theorem ok_rgbtohsv {P : PF} {fa : FA} (X : Facts P fa) (r : Nat) : ∀ C : Cx, C.K = K_rgbtohsv → C.gval = gv_rgbtohsv → C.fns = fns_rgbtohsv → C.fa = fa → FrameOf P C (r + 0) → (∀ x, C.env.kindOf x = d_rgbtohsv.scope.names.lookup x) → (∃ b names, C.env.cells = cellsFrom b names [] ∧ CellsOk C.K names) → CxOK C := by
  intro C hK hgv hf hfa Fo hk hc
  have D := def_rgbtohsv P X.p
  refine frame_ok Fo (by rw [hK, hgv, hfa]; exact X.g_rgbtohsv) (by rw [hK]; exact D.nodup) (by rw [hK]; intro x hx; rw [hk]; exact D.locs x hx) (by rw [hK]; intro x hx hf; rw [hk]; exact D.globs x hx hf) hc ?_
  intro fz k args cargs σ Q s m ad news T R ra q
  rw [hf] at q
  exact q.elim
theorem ok_law {P : PF} {fa : FA} (X : Facts P fa) (r : Nat) : ∀ C : Cx, C.K = K_law → C.gval = gv_law → C.fns = fns_law → C.fa = fa → FrameOf P C (r + 1) → (∀ x ∈ K_law.names, (x == ("__debug__" : Str)) = false ∧ (x ∉ K_law.cells → C.env.kindOf x = some .local) ∧ (x ∈ K_law.cells → C.env.kindOf x = some .cell)) → (∀ x ∈ K_law.globs, x ∉ K_law.far → C.env.kindOf x = some .globalImplicit) → (∃ b names, C.env.cells = cellsFrom b names [] ∧ CellsOk K_law names) → CxOK C := by
  intro C hK hgv hf hfa Fo hl hg hc
  refine frame_ok Fo (by rw [hK, hgv, hfa]; exact X.g_law) (by rw [hK]; decide +kernel) (by rw [hK]; exact hl) (by rw [hK]; exact hg) (by rw [hK]; exact hc) ?_
  intro fz k args cargs σ Q s m ad news T R ra q
  rw [hf] at q
  rcases q with ⟨rfl, q⟩ | ⟨rfl, q⟩ | ⟨rfl, q⟩
  · exact call_def (C := { C with fz := fz }) (room := r + 0) (Fo.fz fz) (def_hsvtorgb P X.p) (by show _ = some (Value.ref (C.fa.addr _)); rw [hfa]; exact X.at_hsvtorgb) (fun C' h1 h2 h3 h4 h5 h6 h7 => ok_hsvtorgb X r C' h1 h2 h3 (h4.trans hfa) h5 h6 h7) args cargs σ Q s m ad news T R ra q
  · exact call_def (C := { C with fz := fz }) (room := r + 0) (Fo.fz fz) (def_lawfloats P X.p) (by show _ = some (Value.ref (C.fa.addr _)); rw [hfa]; exact X.at_lawfloats) (fun C' h1 h2 h3 h4 h5 h6 h7 => ok_lawfloats X r C' h1 h2 h3 (h4.trans hfa) h5 h6 h7) args cargs σ Q s m ad news T R ra q
  · exact call_def (C := { C with fz := fz }) (room := r + 0) (Fo.fz fz) (def_rgbtohsv P X.p) (by show _ = some (Value.ref (C.fa.addr _)); rw [hfa]; exact X.at_rgbtohsv) (fun C' h1 h2 h3 h4 h5 h6 h7 => ok_rgbtohsv X r C' h1 h2 h3 (h4.trans hfa) h5 h6 h7) args cargs σ Q s m ad news T R ra q
end Mine
namespace Mine
open PySem PySem.W PySem.Float64

local macro_rules | `(tactic| walk_at "ev loc") => `(tactic| first | exact loc_set_eq | ((with_reducible refine loc_set_ne ?hd ?_); (case hd => decide); walk_at "ev loc") | (with_reducible refine loc_alloc ?_; walk_at "ev loc") | assumption | exact rfl)
local macro_rules | `(tactic| walk_at "ev objs") => `(tactic| first | ((with_reducible refine' objs_set ?hx); (case hx => walk_at "ev objs")) | ((with_reducible refine' objs_alloc ?hx); (case hx => walk_at "ev objs")) | assumption | exact rfl)
local macro_rules | `(tactic| walk_at "ev") => `(tactic| first
  | with_reducible apply i_const
  | ((with_reducible refine' i_loc ?hl ?_); (case hl => walk_at "ev loc"))
  | ((with_reducible refine' i_glob ?hl ?_); (case hl => exact rfl); (try refine ⟨rfl, ?_⟩))
  | (with_reducible first | apply i_bin | apply i_cmp | apply i_call | apply i_es_cons | apply i_es_nil | apply i_assign | apply i_assignT | apply i_if | apply b_name | apply i_ret | apply i_nil | apply i_truth | apply i_bools | apply i_br_nil | refine i_and ?_ ?_ | refine i_or ?_ ?_ | apply i_ite | apply i_sub | apply i_slTo | apply i_slFrom | apply i_tuple | apply i_list | apply i_neg | apply i_not | apply o_addI | apply o_subI | apply o_addF | apply o_subF | apply o_mulF | apply k_range1)
  | ((with_reducible first | apply c_int | apply c_flt); exact rfl))

theorem hsv_gives (r g b : UInt64) (objs : List (List AV)) (Q : AV → List (List AV) → Prop) (hz : fcmp .Eq (Float64.cmp (fmin3 r g b) (fmax3 r g b)) = false → isZero (fmax3 r g b) = false ∧ isZero (sub (fmax3 r g b) (fmin3 r g b)) = false)
    (h : Q (.tup (hsvOf r g b)) objs) : fnW gv_rgbtohsv fns_rgbtohsv 3 B_rgbtohsv [.float r, .float g, .float b] objs Q := by
  refine ⟨rfl, ?_⟩
  unfold B_rgbtohsv
  unfold hsvOf at h
  repeat' (first | walk_at "ev" | refine k_max3 ?_ | refine k_min3 ?_ | dsimp only)
  refine ⟨fun hc => ?_, fun hc => ?_⟩
  · rw [if_pos hc] at h
    repeat' (first | walk_at "ev" | dsimp only)
    exact ⟨show 3 ≤ sizeLine by decide, h⟩
  · rw [if_neg (by rw [hc]; decide)] at h
    obtain ⟨z1, z2⟩ := hz hc
    unfold hueFin hueOf at h
    generalize fmax3 r g b = M at *
    generalize fmin3 r g b = n at *
    repeat' (first | walk_at "ev" | refine o_divF z1 ?_ | refine o_divF z2 ?_ | dsimp only)
    refine ⟨fun hc1 => ?_, fun hc1 => ?_⟩
    · rw [if_pos hc1] at h
      repeat' (first | walk_at "ev" | refine o_divF z1 ?_ | refine o_divF z2 ?_ | refine o_divF (by decide +kernel) ?_ | (rw [lit_one]; refine o_modF one_nz ?_) | dsimp only)
      exact ⟨show 3 ≤ sizeLine by decide, h⟩
    · rw [if_neg (by rw [hc1]; decide)] at h
      repeat' (first | walk_at "ev" | refine o_divF z1 ?_ | refine o_divF z2 ?_ | refine o_divF (by decide +kernel) ?_ | (rw [lit_one]; refine o_modF one_nz ?_) | dsimp only)
      refine ⟨fun hc2 => ?_, fun hc2 => ?_⟩
      · rw [if_pos hc2] at h
        repeat' (first | walk_at "ev" | refine o_divF z1 ?_ | refine o_divF z2 ?_ | refine o_divF (by decide +kernel) ?_ | (rw [lit_one]; refine o_modF one_nz ?_) | dsimp only)
        exact ⟨show 3 ≤ sizeLine by decide, h⟩
      · rw [if_neg (by rw [hc2]; decide)] at h
        repeat' (first | walk_at "ev" | refine o_divF z1 ?_ | refine o_divF z2 ?_ | refine o_divF (by decide +kernel) ?_ | (rw [lit_one]; refine o_modF one_nz ?_) | dsimp only)
        exact ⟨show 3 ≤ sizeLine by decide, h⟩

theorem rgb_grey (h s v : UInt64) (objs : List (List AV)) (Q : AV → List (List AV) → Prop) (hs : fcmp .Eq (Float64.cmp s 0x0) = true) (hq : Q (.tup [.float v, .float v, .float v]) objs) : fnW gv_hsvtorgb fns_hsvtorgb 3 B_hsvtorgb [.float h, .float s, .float v] objs Q := by
  refine ⟨rfl, ?_⟩
  unfold B_hsvtorgb
  repeat' (first | walk_at "ev" | dsimp only)
  refine ⟨fun _ => ?_, fun hf => by rw [hs] at hf; cases hf⟩
  repeat' (first | walk_at "ev" | dsimp only)
  exact ⟨show 3 ≤ sizeLine by decide, hq⟩
theorem rgb_givesW (h s v : UInt64) (i c : Nat) (objs : List (List AV)) (Q : AV → List (List AV) → Prop) (hs : fcmp .Eq (Float64.cmp s 0x0) = false) (hf : isFinite (mul h 0x4018000000000000) = true) (hi : Flt.toInt truncOf (mul h 0x4018000000000000) = i) (hib : i ≤ 2 ^ 52) (hic : i % 6 = c)
    (hq : Q (.tup ((sel c v (pOf v s) (qOf v s (sub (mul h 0x4018000000000000) (ofInt i))) (tOf v s (sub (mul h 0x4018000000000000) (ofInt i)))).map .float)) objs) : fnW gv_hsvtorgb fns_hsvtorgb 3 B_hsvtorgb [.float h, .float s, .float v] objs Q := by
  refine ⟨rfl, ?_⟩
  unfold B_hsvtorgb
  unfold pOf qOf tOf sel at hq
  repeat' (first | walk_at "ev" | dsimp only)
  refine ⟨(by intro ht; rw [hs] at ht; cases ht), fun _ => ?_⟩
  repeat' (first | walk_at "ev" | dsimp only)
  refine k_int hf ?_
  rw [hi]
  repeat' (first | walk_at "ev" | refine o_subFI (small_fits (by omega)) ?_ | rw [lit_one] | refine o_modI (by decide) ?_ | dsimp only)
  have e : (i : Int).fmod 6 = c := by rw [Int.fmod_eq_emod_of_nonneg _ (by decide)]; omega
  rw [e]
  have hc : c ≤ 5 := by omega
  clear hic
  have key := le5 hc
  rcases key with rfl | rfl | rfl | rfl | rfl | rfl
  all_goals
    repeat' (first | (exfalso; revert ht; decide) | walk_at "ev" | (refine ⟨(fun ht => ?_), (fun ht => ?_)⟩) | (exact ⟨show 3 ≤ sizeLine by decide, hq⟩) | dsimp only)


noncomputable def noneF : AV → Option AV := fun _ => none
theorem floats_turn {ℓ : Nat → Option AV} {elt : PE} (x : UInt64) (objs : List (List AV)) (K : Option AV → List (List AV) → Prop) (h : K none objs) :
    compTurnW gv_lawfloats ℓ elt none [] [0, 1] (.cons (.not (.call (.glob 0) (.cons (.loc 0) (.cons (.glob 1) (.nil))))) (.nil)) (.float x) objs K := by
  show wpE _ _ _ _ _
  repeat' (first | walk_at "ev" | refine k_isF ?_ | dsimp only)
  refine ⟨(by intro hc; cases hc), fun _ => ?_⟩
  exact ⟨(by intro hc; cases hc), fun _ => h⟩
theorem floats_give (x y z : UInt64) (objs : List (List AV)) (Q : AV → List (List AV) → Prop) (h : Q (.bool true) (objs ++ [[]] ++ [[]])) : fnW gv_lawfloats fns_lawfloats 1 B_lawfloats [.tup [.float x, .float y, .float z]] objs Q := by
  refine ⟨rfl, ?_⟩
  unfold B_lawfloats
  refine i_ret (i_cmp (i_comp ?_))
  repeat' (first | walk_at "ev" | dsimp only)
  refine t_tup ?_
  refine' l_comp noneF rfl ?hz ?_ ?_
  case hz => exact (show 3 ≤ sizeLine by decide)
  · intro u hu objs K hK
    simp only [List.mem_cons, List.not_mem_nil, or_false] at hu
    rcases hu with rfl | rfl | rfl <;> exact floats_turn _ _ _ hK
  repeat' (first | walk_at "ev" | dsimp only)
  refine l_new rfl (show 0 ≤ sizeLine by decide) ?_
  refine c_eqL (l := []) (k := []) (ns := []) (ms := []) rfl (by simp [St.alloc, noneF, St.set]) (by simp [St.alloc, St.set]) rfl rfl ?_
  exact h

open PySem PySem.W PySem.Float64



theorem o_pow2' {σ : St} {Q : AV → St → Prop} {n : Int} (a : Nat) (e : n = a) (ha : a ≤ 100) (h : Q (.int (2 ^ a)) σ) : binL .Pow (.int 2) (.int n) σ Q := by
  subst e
  refine o_powI (by omega) (by omega) (by decide) ?_
  rw [Int.toNat_natCast]; exact h
theorem nz_pow (a : Nat) : (2 : Int) ^ a ≠ 0 := Int.ne_of_gt (pow_pos_int a)
theorem abs_pow (k a : Nat) : ((k : Int) * 2 ^ a).natAbs = k * 2 ^ a := by
  rw [show ((k : Int) * 2 ^ a) = ((k * 2 ^ a : Nat) : Int) by push_cast; rfl]; exact Int.natAbs_natCast _
theorem pow48 {a : Nat} (ha : a ≤ 48) : (2 : Int) ^ a ≤ 2 ^ 48 := by exact_mod_cast Nat.pow_le_pow_right (by decide) ha
theorem is_div {p : Int} {e : Nat} (hp : p.natAbs ≤ 2 ^ 53) (he : e ≤ 1074) : Is (divII p (2 ^ e)) p e := Is.div (p := p) (q := 2 ^ e) (n := p) (e := e) (pow_pos_int e) rfl hp he
theorem rd_hueW {n a : Nat} (hn : n ≤ 2 ^ 53) : Rd (divII (n : Int) (6 * 2 ^ a)) ((n : Int) * TT) (6 * 2 ^ a) := by
  have e := abs_pow 6 a
  have e6 : ((6 : Nat) : Int) = 6 := rfl
  rw [e6] at e
  have h := Rd.ii (p := (n : Int)) (q := 6 * 2 ^ a) (by have := pow_pos_int a; omega) (by
    rw [e, Int.natAbs_natCast]
    have : 1 * 2 ^ 53 ≤ 6 * 2 ^ a * 2 ^ 53 := Nat.mul_le_mul_right _ (by have := Nat.two_pow_pos a; omega)
    omega)
  rwa [e] at h
theorem eq_zero {s : UInt64} {e : Nat} (hs : Is s 0 e) : fcmp .Eq (Float64.cmp s 0x0) = true := by
  rw [eq_is hs (by simpa using zero_is.up e)]; rfl
theorem ne_zero {s : UInt64} {n : Int} {e : Nat} (hs : Is s n e) (hn : n ≠ 0) : fcmp .Eq (Float64.cmp s 0x0) = false := by
  rw [eq_is hs (by simpa using zero_is.up e)]; simpa using hn
theorem selZ_same (k : Nat) (h : Int) : selZ k h h h h = [h, h, h] := by unfold selZ; repeat' split
                                                                         all_goals rfl
theorem rgb_told {a b c i k P : Nat} {S V : Int} {x sx vx : UInt64} (habc : a + b + c = 48) (hP : P < 2 ^ a) (hik : i % 6 = k) (hn : i * 2 ^ a + P ≤ 2 ^ 52) (hS : 0 ≤ S ∧ S ≤ 2 ^ b) (hV : 0 ≤ V ∧ V ≤ 2 ^ c)
    (hx : Rd x (((i * 2 ^ a + P : Nat) : Int) * TT) (6 * 2 ^ a)) (js : Is sx S b) (jv : Is vx V c) (objs : List (List AV)) (Q : AV → List (List AV) → Prop)
    (hq : ∀ r g b' R G B, selZ k (V * 2 ^ (a + b)) (V * (2 ^ b - S) * 2 ^ a) (V * 2 ^ (a + b) - V * S * P) (V * (2 ^ b - S) * 2 ^ a + V * S * P) = [R, G, B] → Is r R 48 → Is g G 48 → Is b' B 48 → Q (.tup [.float r, .float g, .float b']) objs) :
    fnW gv_hsvtorgb fns_hsvtorgb 3 B_hsvtorgb [.float x, .float sx, .float vx] objs Q := by
  have y := six_backW hx hn (by omega)
  have A1 : 1 ≤ 2 ^ a := Nat.two_pow_pos a
  have hi : i ≤ 2 ^ 52 := by
    have : i * 1 ≤ i * 2 ^ a := Nat.mul_le_mul_left _ A1
    omega
  obtain ⟨t1, jf⟩ := sixthW y hP hi (by omega)
  have hP' : 0 ≤ (P : Int) ∧ (P : Int) ≤ 2 ^ a := ⟨by omega, by exact_mod_cast Nat.le_of_lt hP⟩
  obtain ⟨F, f1, f2, f3, f4⟩ := four habc hP' hS hV jf js jv
  by_cases h0 : S = 0
  · subst h0
    refine rgb_grey _ _ _ _ _ (eq_zero js) ?_
    have e1 : V * (2 ^ b - 0) * 2 ^ a = V * 2 ^ (a + b) := by rw [Int.pow_add]; grind
    have iv := F.v
    refine hq _ _ _ _ _ _ ?_ iv iv iv
    rw [e1]
    simpa using selZ_same k (V * 2 ^ (a + b))
  · refine rgb_givesW _ _ _ i k _ _ (ne_zero js h0) (fi_fin y.fi) t1 hi hik ?_
    obtain ⟨r, g, b', R, G, B, ⟨e, e'⟩, ir, ig, ib⟩ := sel_is (c := k) F.v F.p F.q F.t
    rw [e]
    exact hq r g b' R G B e' ir ig ib
structure Told (l h : Int) (x : UInt64) (t1 t2 t3 : UInt64) : Prop where
  f1 : Fi t1
  f2 : Fi t2
  value : Is t3 h 48
  grey : l = h → val t1 = 0 ∧ val t2 = 0
  hue : l < h → val t1 = val x
  sat : l < h → Rd t2 ((h - l) * TT) h.natAbs
theorem hsv_told {l h : Int} {r g b x : UInt64} (H : Hx l h 48 x r g b) (h0 : 0 ≤ l) (hl : l ≤ h) (h1 : h ≤ 2 ^ 48)
    (objs : List (List AV)) (Q : AV → List (List AV) → Prop) (hq : ∀ t1 t2 t3, Told l h x t1 t2 t3 → Q (.tup [.float t1, .float t2, .float t3]) objs) : fnW gv_rgbtohsv fns_rgbtohsv 3 B_rgbtohsv [.float r, .float g, .float b] objs Q := by
  have hc : fcmp .Eq (Float64.cmp (fmin3 r g b) (fmax3 r g b)) = decide (l = h) := eq_is H.hm H.hM
  by_cases e : l = h
  · have hc' : fcmp .Eq (Float64.cmp (fmin3 r g b) (fmax3 r g b)) = true := by rw [hc]; simpa using e
    refine hsv_gives _ _ _ _ _ (fun h => by rw [hc'] at h; cases h) ?_
    unfold hsvOf
    rw [if_pos hc']
    have z0 : val 0 = 0 := by have := zero_is.eq; simpa using this
    exact hq _ _ _ ⟨zero_is.fi, zero_is.fi, H.hM, fun _ => ⟨z0, z0⟩, fun h => by omega, fun h => by omega⟩
  · have hlt : l < h := by omega
    have hc' : fcmp .Eq (Float64.cmp (fmin3 r g b) (fmax3 r g b)) = false := by rw [hc]; simpa using e
    have s1 : Is (sub (fmax3 r g b) (fmin3 r g b)) (h - l) 48 := H.hM.sub H.hm (by omega) (by decide)
    have rs := rd_quot s1 H.hM (by omega) (by omega)
    refine hsv_gives _ _ _ _ _ (fun _ => ⟨isZero_is H.hM (by omega), isZero_is s1 (by omega)⟩) ?_
    unfold hsvOf
    rw [if_neg (by rw [hc']; decide)]
    obtain ⟨fh, vh⟩ := H.hue hlt
    exact hq _ _ _ ⟨fh, rs.fi, H.hM, fun h => absurd h e, fun _ => vh, fun _ => rs⟩
theorem eqFs3 {a b c x y z : UInt64} (h1 : Float64.cmp a x = some .eq) (h2 : Float64.cmp b y = some .eq) (h3 : Float64.cmp c z = some .eq) : eqFs [.float a, .float b, .float c] [.float x, .float y, .float z] = true := by
  simp [eqFs, AV.flt?, h1, h2, h3]
theorem is_eq {x y : UInt64} {n m : Int} {e : Nat} (h : Is x n e) (k : Is y m e) (hnm : n = m) : Float64.cmp x y = some .eq := by
  subst hnm
  exact cmp_eq h.fi k.fi (h.val_eq k)

open PySem PySem.W PySem.Float64



structure E8 (σ : St) (a b c p T k w st : Nat) (S V way : Int) : Prop where
  f2 : σ.loc 2 = some (.int a)
  f3 : σ.loc 3 = some (.int b)
  f4 : σ.loc 4 = some (.int c)
  f7 : σ.loc 7 = some (.int p)
  f8 : σ.loc 8 = some (.int T)
  f9 : σ.loc 9 = some (.int S)
  f10 : σ.loc 10 = some (.int V)
  f11 : σ.loc 11 = some (.int (V * (2 ^ b - S) * 2 ^ a))
  f12 : σ.loc 12 = some (.lst st)
  f13 : σ.loc 13 = some (.int ((k : Int) * 2 ^ a))
  f14 : σ.loc 14 = some (.int w)
  f15 : σ.loc 15 = some (.int way)
theorem E8.same {σ σ' : St} {a b c p T k w st : Nat} {S V way : Int} (E : E8 σ a b c p T k w st S V way) (h : ∀ n, n < 16 → σ'.loc n = σ.loc n) : E8 σ' a b c p T k w st S V way :=
  ⟨(h _ (by decide)).trans E.f2, (h _ (by decide)).trans E.f3, (h _ (by decide)).trans E.f4, (h _ (by decide)).trans E.f7, (h _ (by decide)).trans E.f8, (h _ (by decide)).trans E.f9, (h _ (by decide)).trans E.f10, (h _ (by decide)).trans E.f11, (h _ (by decide)).trans E.f12, (h _ (by decide)).trans E.f13, (h _ (by decide)).trans E.f14, (h _ (by decide)).trans E.f15⟩
structure S8 (σ : St) (st w : Nat) (ss : List Int) (x : Int) : Prop where
  at_ : σ.objs[st]? = some (ss.map .int)
  own : st ∈ σ.own
  len : ss.length = 3
  hw : w < 3
  x : ss[w]? = some x
noncomputable def Post8 (σ : St) (st k a : Nat) (ss' : List Int) (P : Fl → St → Prop) : Prop := ∀ σ' : St, (∀ n, n < 13 → σ'.loc n = σ.loc n) → σ'.loc 13 = some (.int ((k : Int) * 2 ^ a + 2 ^ a)) → σ'.objs[st]? = some (ss'.map .int) → st ∈ σ'.own → (∀ (j : Nat) (o : List AV), j ≠ st → σ.objs[j]? = some o → σ'.objs[j]? = some o) → P .next σ'
theorem Post8.move {σ σ₁ : St} {st k a : Nat} {ss' : List Int} {P : Fl → St → Prop} (h : Post8 σ st k a ss' P) (h1 : ∀ n, n < 13 → σ₁.loc n = σ.loc n) (h2 : ∀ (j : Nat) (o : List AV), σ.objs[j]? = some o → σ₁.objs[j]? = some o) : Post8 σ₁ st k a ss' P :=
  fun σ' a1 a2 a3 a4 a5 => h σ' (fun n hn => (a1 n hn).trans (h1 n hn)) a2 a3 a4 fun j o hj ho => a5 j o hj (h2 j o ho)
noncomputable def t2 : PSs := dropS (dropS B_law_1)
noncomputable def t6 : PSs := dropS (dropS (dropS (dropS t2)))
noncomputable def t9 : PSs := dropS (dropS (dropS t6))
noncomputable def t10 : PSs := dropS t9
section
variable {σ : St} {a b c p T k w st : Nat} {S V way x : Int} {ss : List Int} {P : Fl → St → Prop}
theorem tail_10 (E : E8 σ a b c p T k w st S V way) (L : S8 σ st w ss x) (ha : a ≤ 48) (hway : way.natAbs ≤ 1) (hP : Post8 σ st k a (ss.set w (x + way * 2 ^ a)) P) : wpSs gv_law fns_law t10 σ P := by
  have hw := L.hw
  have hl := L.len
  unfold t10 t9 t6 t2 dropS B_law_1
  dsimp only
  refine i_augSub (i_loc E.f12 ⟨st, rfl, i_loc E.f14 ⟨w, _, x, ⟨rfl, by omega, by omega⟩, ⟨L.at_, by rw [Int.toNat_natCast, List.getElem?_map, L.x]; rfl⟩, rfl, ?_⟩⟩)
  refine i_bin (i_loc E.f15 (i_bin (i_const (i_loc E.f2 (o_pow2' a rfl (by omega) (o_mulI (mulOk_l (by omega)) ?_))))))
  refine ⟨_, _, rfl, ⟨L.at_, L.own, by simp; omega⟩, ?_⟩
  refine i_aug (v := .int ((k : Int) * 2 ^ a)) E.f13 (i_bin (i_const (i_loc E.f2 (o_pow2' a rfl (by omega) (g_addI ?_)))))
  refine i_nil (hP _ (fun n hn => ?_) loc_set_eq ?_ L.own fun j o hj ho => ?_)
  · exact loc_set_ne (by omega) rfl
  · show (σ.objs.set st _)[st]? = _
    rw [get_set L.at_, Int.toNat_natCast, List.map_set]
  · exact get_set_ne hj ho
theorem tail_9 {a1 a2 a3 d1 d2 d3 : UInt64} (E : E8 σ a b c p T k w st S V way) (L : S8 σ st w ss x) (ha : a ≤ 48) (hway : way.natAbs ≤ 1) (f20 : σ.loc 20 = some (.tup [.float a1, .float a2, .float a3])) (f21 : σ.loc 21 = some (.tup [.float d1, .float d2, .float d3]))
    (he : eqFs [.float a1, .float a2, .float a3] [.float d1, .float d2, .float d3] = true) (hP : Post8 σ st k a (ss.set w (x + way * 2 ^ a)) P) : wpSs gv_law fns_law t9 σ P := by
  show wpSs gv_law fns_law (.cons _ t10) σ P
  refine i_if (i_bools (i_cmp (i_loc f20 (i_loc f21 (c_tupNe (by simp) he ?_)))))
  refine i_or (fun _ => ?_) (by intro hh; cases hh)
  refine i_not (i_call (i_glob rfl ⟨rfl, i_es_cons (i_loc f20 (i_es_nil (k_fn (.inr (.inl ⟨rfl, floats_give _ _ _ _ _ ?_⟩)))))⟩))
  refine i_truth ?_
  refine i_br_nil ?_
  refine i_truth ?_
  refine ⟨(by intro hh; cases hh), fun _ => i_nil ?_⟩
  refine tail_10 (E.same fun _ _ => rfl) ⟨get_app (get_app L.at_), L.own, L.len, L.hw, L.x⟩ ha hway (hP.move (fun _ _ => rfl) fun j o hj => get_app (get_app hj))
end

open PySem PySem.W PySem.Float64



theorem want_hue {a b c : Nat} {S V : Int} {x t1 t2 t3 : UInt64} (habc : a + b + c = 48) (hS : 0 < S ∧ S ≤ 2 ^ b) (hV : 0 < V ∧ V ≤ 2 ^ c) (fx : Fi x) (tt : Told (V * (2 ^ b - S) * 2 ^ a) (V * 2 ^ (a + b)) x t1 t2 t3) :
    eqFs [.float t1, .float t2, .float t3] [.float x, .float (divII S (2 ^ b)), .float (divII V (2 ^ c))] = true := by
  have A := pow_pos_int a
  have b48 := pow48 (a := b) (by omega)
  have c48 := pow48 (a := c) (by omega)
  have hab : (2 : Int) ^ (a + b) = 2 ^ a * 2 ^ b := Int.pow_add ..
  have e2 : V * 2 ^ (a + b) - V * (2 ^ b - S) * 2 ^ a = V * S * 2 ^ a := by rw [hab]; grind
  have VS : 0 < V * S := Int.mul_pos hV.1 hS.1
  have hlt : V * (2 ^ b - S) * 2 ^ a < V * 2 ^ (a + b) := by
    have : 0 < V * S * 2 ^ a := Int.mul_pos VS A
    omega
  have hpos : 0 < V * 2 ^ (a + b) := Int.mul_pos hV.1 (pow_pos_int _)
  refine eqFs3 (cmp_eq tt.f1 fx (tt.hue hlt)) ?_ ?_
  · have r := tt.sat hlt
    rw [e2] at r
    refine is_eq (rd_is (k := S) (e := b) r (by omega) (by omega) ?_) (is_div (by omega) (by omega)) rfl
    have p1 : (((V * 2 ^ (a + b)).natAbs : Nat) : Int) = V * 2 ^ (a + b) := Int.natAbs_of_nonneg (Int.le_of_lt hpos)
    rw [p1, hab]
    generalize (TT : Int) = T
    grind
  · have i2 := (is_div (p := V) (e := c) (by omega) (by omega)).up (a + b)
    rw [show c + (a + b) = 48 by omega] at i2
    exact is_eq tt.value i2 rfl
theorem want_grey {a b c : Nat} {S V : Int} {x t1 t2 t3 : UInt64} (habc : a + b + c = 48) (hSV : S = 0 ∨ V = 0) (hV : 0 ≤ V ∧ V ≤ 2 ^ c) (tt : Told (V * (2 ^ b - S) * 2 ^ a) (V * 2 ^ (a + b)) x t1 t2 t3) :
    eqFs [.float t1, .float t2, .float t3] [.float 0x0, .float 0x0, .float (divII V (2 ^ c))] = true := by
  have hab : (2 : Int) ^ (a + b) = 2 ^ a * 2 ^ b := Int.pow_add ..
  have c48 := pow48 (a := c) (by omega)
  have e : V * (2 ^ b - S) * 2 ^ a = V * 2 ^ (a + b) := by
    rcases hSV with rfl | rfl
    · rw [hab]; grind
    · simp
  obtain ⟨v1, v2⟩ := tt.grey e
  have z0 : val 0x0 = 0 := by have := zero_is.eq; simpa using this
  refine eqFs3 (cmp_eq tt.f1 zero_is.fi (v1.trans z0.symm)) (cmp_eq tt.f2 zero_is.fi (v2.trans z0.symm)) ?_
  have i2 := (is_div (p := V) (e := c) (by omega) (by omega)).up (a + b)
  rw [show c + (a + b) = 48 by omega] at i2
  exact is_eq tt.value i2 rfl
section
variable {σ : St} {a b c p T k w st : Nat} {S V way x : Int} {ss : List Int} {P : Fl → St → Prop}
theorem tail_6 {d0 d1 d2 : UInt64} {R G B : Int} (E : E8 σ a b c p T k w st S V way) (L : S8 σ st w ss x) (habc : a + b + c = 48) (hk : k ≤ 5) (hp : p < 2 ^ a) (hS : 0 ≤ S ∧ S ≤ 2 ^ b) (hV : 0 ≤ V ∧ V ≤ 2 ^ c) (hway : way.natAbs ≤ 1) (f17 : σ.loc 17 = some (.tup [.float d0, .float d1, .float d2]))
    (hsel : selZ k (V * 2 ^ (a + b)) (V * (2 ^ b - S) * 2 ^ a) (V * 2 ^ (a + b) - V * S * p) (V * (2 ^ b - S) * 2 ^ a + V * S * p) = [R, G, B]) (i0 : Is d0 R 48) (i1 : Is d1 G 48) (i2 : Is d2 B 48)
    (hP : Post8 σ st k a (ss.set w (x + way * 2 ^ a)) P) : wpSs gv_law fns_law t6 σ P := by
  have A := pow_pos_int a
  have a48 := pow48 (a := a) (by omega)
  have b48 := pow48 (a := b) (by omega)
  have c48 := pow48 (a := c) (by omega)
  have hp' : ((p : Nat) : Int) < 2 ^ a := by exact_mod_cast hp
  have hS48 := in48 hS (show b ≤ 48 by omega)
  have hV48 := in48 hV (show c ≤ 48 by omega)
  have hp48 := in48 (x := (p : Int)) (e := a) ⟨Int.natCast_nonneg _, Int.le_of_lt hp'⟩ (by omega)
  have n1 : (k : Int) * 2 ^ a ≤ 5 * 2 ^ a := Int.mul_le_mul_of_nonneg_right (by omega) (Int.le_of_lt A)
  have n0 : 0 ≤ (k : Int) * 2 ^ a := Int.mul_nonneg (by omega) (Int.le_of_lt A)
  obtain ⟨-, g1, g2, g3, g4⟩ := four habc ⟨by omega, Int.le_of_lt hp'⟩ hS hV (is_div (p := (p : Int)) (e := a) (abs53 hp48) (by omega)) (is_div (p := S) (e := b) (abs53 hS48) (by omega)) (is_div (p := V) (e := c) (abs53 hV48) (by omega))
  have hab : (2 : Int) ^ (a + b) = 2 ^ a * 2 ^ b := Int.pow_add ..
  have hD : V * 2 ^ (a + b) - V * (2 ^ b - S) * 2 ^ a = V * S * 2 ^ a := by rw [hab]; grind
  have hn6 : k * 2 ^ a + p ≤ 2 ^ 53 := by
    have h1 : k * 2 ^ a ≤ 5 * 2 ^ a := Nat.mul_le_mul_right _ hk
    have h2 : 2 ^ a ≤ 2 ^ 48 := Nat.pow_le_pow_right (by decide) (by omega)
    omega
  have hx := rd_hueW (n := k * 2 ^ a + p) (a := a) hn6
  have en : (k : Int) * 2 ^ a + p = ((k * 2 ^ a + p : Nat) : Int) := by push_cast; rfl
  have H := hx_of g1 g2 g3 (by omega) (by decide) hk (by omega) hp (by rw [hD]; grind) hx hsel i0 i1 i2
  show wpSs gv_law fns_law (.cons _ (.cons _ (.cons _ t9))) σ P
  refine i_assign (i_call (i_glob rfl ⟨rfl, i_es_cons (i_sub (i_loc f17 (i_const (s_tup (by decide) (by decide) rfl ?_))))⟩))
  refine i_es_cons (i_sub (i_loc f17 (i_const (s_tup (by decide) (by decide) rfl ?_))))
  refine i_es_cons (i_sub (i_loc f17 (i_const (s_tup (by decide) (by decide) rfl (i_es_nil ?_)))))
  refine k_fn (.inr (.inr ⟨rfl, hsv_told H g1 (by omega) g4 _ _ fun t1 t2 t3 tt => ?_⟩))
  have E1 : E8 (σ.set 20 (.tup [.float t1, .float t2, .float t3])) a b c p T k w st S V way := E.same fun n hn => loc_set_ne (by omega) rfl
  have L1 : S8 (σ.set 20 (.tup [.float t1, .float t2, .float t3])) st w ss x := ⟨L.at_, L.own, L.len, L.hw, L.x⟩
  have P1 : Post8 (σ.set 20 (.tup [.float t1, .float t2, .float t3])) st k a (ss.set w (x + way * 2 ^ a)) P := hP.move (fun n hn => loc_set_ne (by omega) rfl) fun j o hj => hj
  have k20 : (σ.set 20 (.tup [.float t1, .float t2, .float t3])).loc 20 = some (.tup [.float t1, .float t2, .float t3]) := loc_set_eq
  show wpSs gv_law fns_law (.cons _ (.cons _ t9)) (σ.set 20 _) P
  generalize σ.set 20 (.tup [.float t1, .float t2, .float t3]) = σ₁ at *
  have e9 := E1.f9
  have e10 := E1.f10
  have e3 := E1.f3
  have e4 := E1.f4
  refine i_assign (i_tuple (i_es_cons (i_const (i_es_cons (i_const (i_es_cons (i_bin (i_loc e10 (i_bin (i_const (i_loc e4 (o_pow2' c rfl (by omega) (o_divI (nz_pow c) (small_fits (abs60 hV48)) (i_es_nil ⟨show 3 ≤ sizeLine by decide, ?_⟩))))))))))))))
  have fin : ∀ (σ₂ : St) (w1 w2 w3 : UInt64), (∀ n, n < 21 → σ₂.loc n = σ₁.loc n) → σ₂.objs = σ₁.objs → σ₂.own = σ₁.own → σ₂.loc 21 = some (.tup [.float w1, .float w2, .float w3]) → eqFs [.float t1, .float t2, .float t3] [.float w1, .float w2, .float w3] = true → wpSs gv_law fns_law t9 σ₂ P := by
    intro σ₂ w1 w2 w3 q1 q2 q3 q4 q5
    exact tail_9 (E1.same fun n hn => q1 n (by omega)) ⟨by rw [q2]; exact L1.at_, by rw [q3]; exact L1.own, L1.len, L1.hw, L1.x⟩ (by omega) hway ((q1 20 (by decide)).trans k20) q4 q5 (P1.move (fun n hn => q1 n (by omega)) fun j o hj => by rw [q2]; exact hj)
  refine i_if (i_bools (i_cmp (i_loc (loc_set_ne (by decide) e9) (i_const (c_int rfl ?_)))))
  refine i_and (fun hS0 => ?_) (fun hS0 => ?_)
  · have S0 : S ≠ 0 := by simpa [icmp] using hS0
    refine i_cmp (i_loc (loc_set_ne (by decide) e10) (i_const (c_int rfl (i_br_nil ?_))))
    refine i_truth ?_
    refine ⟨fun hV0 => ?_, fun hV0 => ?_⟩
    · have V0 : V ≠ 0 := by simpa [icmp] using hV0
      have e13 := E1.f13
      have e7 := E1.f7
      have e2 := E1.f2
      repeat' (first | walk_at "ev" | refine o_pow2' _ rfl (by omega) ?_ | refine o_mulI (mulOk_l (by decide)) ?_ | dsimp only)
      refine o_divI (by omega) (small_fits (by omega)) ?_
      repeat' (first | walk_at "ev" | refine o_pow2' _ rfl (by omega) ?_ | dsimp only)
      refine o_divI (nz_pow b) (small_fits (abs60 hS48)) ?_
      repeat' (first | walk_at "ev" | refine o_pow2' _ rfl (by omega) ?_ | dsimp only)
      refine o_divI (nz_pow c) (small_fits (abs60 hV48)) ?_
      refine i_es_nil ⟨show 3 ≤ sizeLine by decide, ?_⟩
      refine i_nil (fin _ _ _ _ (fun n hn => ?_) rfl rfl loc_set_eq ?_)
      · exact loc_set_ne (by omega) (loc_set_ne (by omega) rfl)
      · rw [en]
        exact want_hue habc ⟨by omega, hS.2⟩ ⟨by omega, hV.2⟩ hx.fi tt
    · have V0 : V = 0 := by simpa [icmp] using hV0
      exact i_nil (fin _ _ _ _ (fun n hn => loc_set_ne (by omega) rfl) rfl rfl loc_set_eq (want_grey habc (.inr V0) hV tt))
  · have S0 : S = 0 := by simpa [icmp] using hS0
    refine i_truth ⟨fun ht => ?_, fun _ => ?_⟩
    · rw [hS0] at ht; cases ht
    · exact i_nil (fin _ _ _ _ (fun n hn => loc_set_ne (by omega) rfl) rfl rfl loc_set_eq (want_grey habc (.inl S0) hV tt))
end

open PySem PySem.W PySem.Float64



noncomputable def duF (l V S : Int) : AV → Option AV
  | .int n => some (.float (divII (l + V * S * n) (2 ^ (48 : Int).toNat)))
  | _ => none
theorem du_turn {ℓ : Nat → Option AV} {l V S : Int} (h11 : ℓ 11 = some (.int l)) (h10 : ℓ 10 = some (.int V)) (h9 : ℓ 9 = some (.int S)) (hV : V.natAbs < 2 ^ 64) (hVS : (V * S).natAbs < 2 ^ 64) (n : Int) (hb : (l + V * S * n).natAbs ≤ 2 ^ 60) (objs : List (List AV)) (K : Option AV → List (List AV) → Prop) (h : K (duF l V S (.int n)) objs) :
    compTurnW gv_law ℓ (.bin .Div (.bin .Add (.loc 1) (.bin .Mult (.bin .Mult (.loc 2) (.loc 3)) (.loc 0))) (.bin .Pow (.const (.int 2)) (.const (.int 48)))) none [11, 10, 9] [] .nil (.int n) objs K := by
  show _ ∧ _
  refine ⟨fun _ => ?_, (by intro hc; cases hc)⟩
  have k1 : childLoc ℓ [AV.int n] [11, 10, 9] 1 = some (.int l) := h11
  have k2 : childLoc ℓ [AV.int n] [11, 10, 9] 2 = some (.int V) := h10
  have k3 : childLoc ℓ [AV.int n] [11, 10, 9] 3 = some (.int S) := h9
  refine i_bin (i_bin (i_loc k1 (i_bin (i_bin (i_loc k2 (i_loc k3 (o_mulI (mulOk_l hV) ?_)))))))
  refine i_loc rfl (o_mulI (mulOk_l hVS) (o_addI ?_))
  refine i_bin (i_const (i_const (o_powI (by decide) (by decide) (by decide) ?_)))
  exact o_divI (by decide) (small_fits hb) h
section
variable {σ : St} {a b c p T k w st t : Nat} {S V way x : Int} {ss : List Int} {P : Fl → St → Prop}
theorem tail_2 {n0 n1 n2 : Int} (E : E8 σ a b c p T k w st S V way) (L : S8 σ st w ss x) (habc : a + b + c = 48) (hk : k ≤ 5) (hp : p < 2 ^ a) (hS : 0 ≤ S ∧ S ≤ 2 ^ b) (hV : 0 ≤ V ∧ V ≤ 2 ^ c) (hway : way.natAbs ≤ 1) (hT : (T * 6 + k) * 2 ^ a + p ≤ 2 ^ 52)
    (f16 : σ.loc 16 = some (.lst t)) (ht : σ.objs[t]? = some [.int n0, .int n1, .int n2]) (hth : selZ k (2 ^ a) 0 (2 ^ a - p) p = [n0, n1, n2])
    (hP : Post8 σ st k a (ss.set w (x + way * 2 ^ a)) P) : wpSs gv_law fns_law t2 σ P := by
  have A := pow_pos_int a
  have a48 := pow48 (a := a) (by omega)
  have b48 := pow48 (a := b) (by omega)
  have c48 := pow48 (a := c) (by omega)
  have hp' : ((p : Nat) : Int) < 2 ^ a := by exact_mod_cast hp
  have hS48 := in48 hS (show b ≤ 48 by omega)
  have hV48 := in48 hV (show c ≤ 48 by omega)
  have hp48 := in48 (x := (p : Int)) (e := a) ⟨Int.natCast_nonneg _, Int.le_of_lt hp'⟩ (by omega)
  have js : Is (divII S (2 ^ b)) S b := is_div (abs53 hS48) (by omega)
  have jv : Is (divII V (2 ^ c)) V c := is_div (abs53 hV48) (by omega)
  obtain ⟨-, g1, g2, g3, g4⟩ := four habc ⟨by omega, Int.le_of_lt hp'⟩ hS hV (is_div (p := (p : Int)) (e := a) (abs53 hp48) (by omega)) js jv
  have hab : (2 : Int) ^ (a + b) = 2 ^ a * 2 ^ b := Int.pow_add ..
  have hD : V * (2 ^ b - S) * 2 ^ a + V * S * 2 ^ a = V * 2 ^ (a + b) := by rw [hab]; grind
  have VS := Int.mul_nonneg hV.1 hS.1
  have vs48 : V * S ≤ 2 ^ 48 := by
    have h1 : V * S * 1 ≤ V * S * 2 ^ a := Int.mul_le_mul_of_nonneg_left (by omega) VS
    omega
  have hsel : selZ k (V * 2 ^ (a + b)) (V * (2 ^ b - S) * 2 ^ a) (V * 2 ^ (a + b) - V * S * p) (V * (2 ^ b - S) * 2 ^ a + V * S * p) =
      [V * (2 ^ b - S) * 2 ^ a + V * S * n0, V * (2 ^ b - S) * 2 ^ a + V * S * n1, V * (2 ^ b - S) * 2 ^ a + V * S * n2] := by
    have := selZ_map k (2 ^ a) 0 (2 ^ a - p) p (V * (2 ^ b - S) * 2 ^ a) (V * S)
    have e3 : V * (2 ^ b - S) * 2 ^ a + V * S * (2 ^ a - p) = V * 2 ^ (a + b) - V * S * p := by rw [Int.mul_sub (V * S)]; omega
    rw [hth, hD, Int.mul_zero, Int.add_zero, e3] at this
    exact this
  have bd : ∀ n ∈ [n0, n1, n2], 0 ≤ V * (2 ^ b - S) * 2 ^ a + V * S * n ∧ V * (2 ^ b - S) * 2 ^ a + V * S * n ≤ 2 ^ 48 := by
    intro n hn
    rw [← hth] at hn
    obtain ⟨q1, q2⟩ := selZ_in (Int.le_of_lt A) ⟨by omega, Int.le_of_lt hp'⟩ hn
    have r1 := Int.mul_nonneg VS q1
    have r2 := Int.mul_le_mul_of_nonneg_left q2 VS
    omega
  have B0 := bd n0 (by simp)
  have B1 := bd n1 (by simp)
  have B2 := bd n2 (by simp)
  show wpSs gv_law fns_law (.cons _ (.cons _ (.cons _ (.cons _ t6)))) σ P
  refine i_assign (i_call (i_glob rfl ⟨rfl, i_es_cons (i_comp (i_loc f16 (t_lst rfl ht ?_)))⟩))
  refine' l_comp (duF (V * (2 ^ b - S) * 2 ^ a) V S) rfl ?hz ?_ ?_
  case hz => exact (show 3 ≤ sizeLine by decide)
  · intro u hu objs K hK
    simp only [List.mem_cons, List.not_mem_nil, or_false] at hu
    rcases hu with rfl | rfl | rfl
    · exact du_turn E.f11 E.f10 E.f9 (abs64 hV48) (abs64 ⟨VS, vs48⟩) _ (abs60 B0) _ _ hK
    · exact du_turn E.f11 E.f10 E.f9 (abs64 hV48) (abs64 ⟨VS, vs48⟩) _ (abs60 B1) _ _ hK
    · exact du_turn E.f11 E.f10 E.f9 (abs64 hV48) (abs64 ⟨VS, vs48⟩) _ (abs60 B2) _ _ hK
  have i0 : Is (divII (V * (2 ^ b - S) * 2 ^ a + V * S * n0) (2 ^ (48 : Int).toNat)) (V * (2 ^ b - S) * 2 ^ a + V * S * n0) 48 := is_div (e := 48) (abs53 B0) (by decide)
  have i1 : Is (divII (V * (2 ^ b - S) * 2 ^ a + V * S * n1) (2 ^ (48 : Int).toNat)) (V * (2 ^ b - S) * 2 ^ a + V * S * n1) 48 := is_div (e := 48) (abs53 B1) (by decide)
  have i2 : Is (divII (V * (2 ^ b - S) * 2 ^ a + V * S * n2) (2 ^ (48 : Int).toNat)) (V * (2 ^ b - S) * 2 ^ a + V * S * n2) 48 := is_div (e := 48) (abs53 B2) (by decide)
  refine i_es_nil ?_
  refine k_tuple (l := [.float (divII (V * (2 ^ b - S) * 2 ^ a + V * S * n0) (2 ^ (48 : Int).toNat)), .float (divII (V * (2 ^ b - S) * 2 ^ a + V * S * n1) (2 ^ (48 : Int).toNat)), .float (divII (V * (2 ^ b - S) * 2 ^ a + V * S * n2) (2 ^ (48 : Int).toNat))]) rfl get_last (show 3 ≤ sizeLine by decide) ?_
  generalize divII (V * (2 ^ b - S) * 2 ^ a + V * S * n0) (2 ^ (48 : Int).toNat) = d0 at *
  generalize divII (V * (2 ^ b - S) * 2 ^ a + V * S * n1) (2 ^ (48 : Int).toNat) = d1 at *
  generalize divII (V * (2 ^ b - S) * 2 ^ a + V * S * n2) (2 ^ (48 : Int).toNat) = d2 at *
  have E1 : E8 ((σ.alloc (List.filterMap (duF (V * (2 ^ b - S) * 2 ^ a) V S) [.int n0, .int n1, .int n2])).set 17 (.tup [.float d0, .float d1, .float d2])) a b c p T k w st S V way := E.same fun n hn => loc_set_ne (by omega) rfl
  have L1 : S8 ((σ.alloc (List.filterMap (duF (V * (2 ^ b - S) * 2 ^ a) V S) [.int n0, .int n1, .int n2])).set 17 (.tup [.float d0, .float d1, .float d2])) st w ss x := ⟨get_app L.at_, List.mem_cons_of_mem _ L.own, L.len, L.hw, L.x⟩
  have P1 : Post8 ((σ.alloc (List.filterMap (duF (V * (2 ^ b - S) * 2 ^ a) V S) [.int n0, .int n1, .int n2])).set 17 (.tup [.float d0, .float d1, .float d2])) st k a (ss.set w (x + way * 2 ^ a)) P := hP.move (fun n hn => loc_set_ne (by omega) rfl) fun j o hj => get_app hj
  have k17 : ((σ.alloc (List.filterMap (duF (V * (2 ^ b - S) * 2 ^ a) V S) [.int n0, .int n1, .int n2])).set 17 (.tup [.float d0, .float d1, .float d2])).loc 17 = some (.tup [.float d0, .float d1, .float d2]) := loc_set_eq
  generalize (σ.alloc (List.filterMap (duF (V * (2 ^ b - S) * 2 ^ a) V S) [.int n0, .int n1, .int n2])).set 17 (.tup [.float d0, .float d1, .float d2]) = σ₁ at *
  have e2 := E1.f2
  have e3 := E1.f3
  have e4 := E1.f4
  have e7 := E1.f7
  have e8 := E1.f8
  have e9 := E1.f9
  have e10 := E1.f10
  have e13 := E1.f13
  have hT' : (((T * 6 + k) * 2 ^ a + p : Nat) : Int) ≤ 2 ^ 52 := by exact_mod_cast hT
  have en : (T : Int) * 6 * 2 ^ a + k * 2 ^ a + p = (((T * 6 + k) * 2 ^ a + p : Nat) : Int) := by push_cast; grind
  have T6 : ((T : Int) * 6).natAbs < 2 ^ 64 := by
    have h1 : T * 6 * 1 ≤ T * 6 * 2 ^ a := Nat.mul_le_mul_left _ (Nat.two_pow_pos a)
    have h2 : (T * 6 + k) * 2 ^ a = T * 6 * 2 ^ a + k * 2 ^ a := Nat.add_mul ..
    omega
  have Tn : (T : Int).natAbs < 2 ^ 64 := by omega
  repeat' (first | walk_at "ev" | refine o_pow2' _ rfl (by omega) ?_ | refine o_mulI (mulOk_l Tn) ?_ | refine o_mulI (mulOk_l T6) ?_ | refine o_mulI (mulOk_l (by decide)) ?_ | dsimp only)
  rw [en]
  refine o_divI (by omega) (small_fits (by rw [Int.natAbs_natCast]; exact Nat.le_trans hT (by decide))) ?_
  have hx := rd_hueW (n := (T * 6 + k) * 2 ^ a + p) (a := a) (Nat.le_trans hT (by decide))
  generalize divII (((T * 6 + k) * 2 ^ a + p : Nat) : Int) (6 * 2 ^ a) = hh at *
  repeat' (first | walk_at "ev" | refine o_pow2' _ rfl (by omega) ?_ | dsimp only)
  refine o_divI (nz_pow b) (small_fits (abs60 hS48)) ?_
  repeat' (first | walk_at "ev" | refine o_pow2' _ rfl (by omega) ?_ | dsimp only)
  refine o_divI (nz_pow c) (small_fits (abs60 hV48)) ?_
  refine i_es_nil ?_
  refine k_fn (.inl ⟨rfl, rgb_told (i := T * 6 + k) (k := k) habc hp (by omega) hT hS hV hx js jv _ _ fun r g b' R G B he ir ig ib => ?_⟩)
  rw [hsel] at he
  cases he
  refine i_if (i_bools (i_cmp (i_loc loc_set_eq (i_loc (loc_set_ne (by decide) (loc_set_ne (by decide) k17)) (c_tupNe (by simp) (eqFs3 (is_eq ir i0 rfl) (is_eq ig i1 rfl) (is_eq ib i2 rfl)) ?_)))))
  refine i_or (fun _ => ?_) (by intro hh; cases hh)
  refine i_not (i_call (i_glob rfl ⟨rfl, i_es_cons (i_loc loc_set_eq (i_es_nil (k_fn (.inr (.inl ⟨rfl, floats_give _ _ _ _ _ ?_⟩)))))⟩))
  refine i_truth ?_
  refine i_br_nil ?_
  refine i_truth ?_
  refine ⟨(by intro hh; cases hh), fun _ => i_nil ?_⟩
  refine tail_6 (d0 := d0) (d1 := d1) (d2 := d2) (E1.same fun n hn => ?_) ⟨get_app (get_app L1.at_), L1.own, L1.len, L1.hw, L1.x⟩ habc hk hp hS hV hway ?_ hsel i0 i1 i2 (P1.move (fun n hn => ?_) fun j o hj => get_app (get_app hj))
  · show ((σ₁.set 18 (.float hh)).set 19 (.tup [.float r, .float g, .float b'])).loc n = _
    exact loc_set_ne (by omega) (loc_set_ne (by omega) rfl)
  · show ((σ₁.set 18 (.float hh)).set 19 (.tup [.float r, .float g, .float b'])).loc 17 = _
    exact loc_set_ne (by decide) (loc_set_ne (by decide) k17)
  · show ((σ₁.set 18 (.float hh)).set 19 (.tup [.float r, .float g, .float b'])).loc n = _
    exact loc_set_ne (by omega) (loc_set_ne (by omega) rfl)
end

open PySem PySem.W PySem.Float64



theorem selZ_three (c : Nat) (v p q t : Int) : ∃ a b d, selZ c v p q t = [a, b, d] := by
  unfold selZ
  repeat' split
  all_goals exact ⟨_, _, _, rfl⟩
section
variable {σ : St} {a b c p T k w st : Nat} {S V way x : Int} {ss : List Int} {P : Fl → St → Prop}
theorem body08 (E : E8 σ a b c p T k w st S V way) (L : S8 σ st w ss x) (habc : a + b + c = 48) (hk : k ≤ 5) (hp : p < 2 ^ a) (hS : 0 ≤ S ∧ S ≤ 2 ^ b) (hV : 0 ≤ V ∧ V ≤ 2 ^ c) (hway : way.natAbs ≤ 1) (hT : (T * 6 + k) * 2 ^ a + p ≤ 2 ^ 52)
    (hth : ss.set w (x + way * p) = selZ k (2 ^ a) 0 (2 ^ a - p) p) (hP : Post8 σ st k a (ss.set w (x + way * 2 ^ a)) P) : wpSs gv_law fns_law B_law_1 σ P := by
  have hw := L.hw
  have hl := L.len
  have hst : st < σ.objs.length := (List.getElem?_eq_some_iff.mp L.at_).1
  obtain ⟨n0, n1, n2, hsel⟩ := selZ_three k (2 ^ a) 0 (2 ^ a - p) p
  show wpSs gv_law fns_law (.cons _ (.cons _ t2)) σ P
  refine i_assign (i_call (i_glob rfl ⟨rfl, i_es_cons (i_loc E.f12 (i_es_nil ?_))⟩))
  refine k_list rfl L.at_ (by simp [sizeLine, hl]) ?_
  refine i_augSub (i_loc loc_set_eq ⟨_, rfl, i_loc (loc_set_ne (by decide) E.f14) ⟨w, ss.map .int, x, ⟨rfl, by omega, by omega⟩, ⟨get_last, by rw [Int.toNat_natCast, List.getElem?_map, L.x]; rfl⟩, rfl, ?_⟩⟩)
  refine i_bin (i_loc (loc_set_ne (by decide) E.f15) (i_loc (loc_set_ne (by decide) E.f7) (o_mulI (mulOk_l (by omega)) ?_)))
  refine ⟨way * p, ss.map .int, rfl, ⟨get_last, List.mem_cons_self .., by simp; omega⟩, ?_⟩
  have go : ∀ (j : Nat) (o : List AV), σ.objs[j]? = some o → ((σ.objs ++ [ss.map AV.int]).set σ.objs.length ((ss.map AV.int).set (w : Int).toNat (.int (x + way * p))))[j]? = some o := fun j o hj => by
    have := (List.getElem?_eq_some_iff.mp hj).1
    exact get_set_ne (by omega) (get_app hj)
  refine tail_2 (t := σ.objs.length) (n0 := n0) (n1 := n1) (n2 := n2) (E.same fun n hn => ?_) ⟨go _ _ L.at_, List.mem_cons_of_mem _ L.own, hl, hw, L.x⟩ habc hk hp hS hV hway hT ?_ ?_ hsel (hP.move (fun n hn => ?_) go)
  · exact loc_set_ne (by omega) rfl
  · show ((σ.alloc (ss.map AV.int)).set 16 (.lst σ.objs.length)).loc 16 = _
    exact loc_set_eq
  · show ((σ.objs ++ [ss.map AV.int]).set σ.objs.length _)[σ.objs.length]? = _
    rw [get_set get_last, Int.toNat_natCast, ← List.map_set, hth, hsel]
    rfl
  · exact loc_set_ne (by omega) rfl
end
noncomputable def stp (A : Int) : Nat → List Int
  | 0 => [A, 0, 0]
  | 1 => [A, A, 0]
  | 2 => [0, A, 0]
  | 3 => [0, A, A]
  | 4 => [0, 0, A]
  | 5 => [A, 0, A]
  | _ => [A, 0, 0]
theorem mem_frozen {j L : Nat} {own : List Nat} (h : j ∈ own) (hne : j ≠ L) : j ∈ frozen (.lst L) own := List.mem_filter.mpr ⟨h, by simpa using hne⟩
theorem mem_thawed {j L : Nat} {own own' : List Nat} (h : j ∈ own') : j ∈ thawed (.lst L) own own' := by
  show j ∈ if own.contains L = true then L :: own' else own'
  split
  · exact List.mem_cons_of_mem _ h
  · exact h
noncomputable def six8 : List AV := [.tup [.int 1, .int 1], .tup [.int 0, .int (-1)], .tup [.int 2, .int 1], .tup [.int 1, .int (-1)], .tup [.int 0, .int 1], .tup [.int 2, .int (-1)]]
theorem loop08 {σ₁ : St} {a b c p T st L cl : Nat} {S V : Int} {cs : List Int} {P : Fl → St → Prop} (habc : a + b + c = 48) (hp : p < 2 ^ a) (hS : 0 ≤ S ∧ S ≤ 2 ^ b) (hV : 0 ≤ V ∧ V ≤ 2 ^ c) (hT : T * 6 * 2 ^ a + 6 * 2 ^ a ≤ 2 ^ 52)
    (f2 : σ₁.loc 2 = some (.int a)) (f3 : σ₁.loc 3 = some (.int b)) (f4 : σ₁.loc 4 = some (.int c)) (f7 : σ₁.loc 7 = some (.int p)) (f8 : σ₁.loc 8 = some (.int T)) (f9 : σ₁.loc 9 = some (.int S)) (f10 : σ₁.loc 10 = some (.int V)) (f11 : σ₁.loc 11 = some (.int (V * (2 ^ b - S) * 2 ^ a))) (f12 : σ₁.loc 12 = some (.lst st)) (f13 : σ₁.loc 13 = some (.int 0))
    (hst : σ₁.objs[st]? = some ((stp (2 ^ a) 0).map .int)) (hown : st ∈ σ₁.own) (hne : st ≠ L) (hcl : σ₁.objs[cl]? = some (cs.map .int)) (hcs : cl ≠ st)
    (hP : ∀ σ' : St, (∀ n, n < 13 → σ'.loc n = σ₁.loc n) → σ'.objs[cl]? = some (cs.map .int) → P .next σ') :
    ∃ J : Nat → St → Prop, J 0 σ₁ ∧ (∀ i u σ₂, six8[i]? = some u → J i σ₂ → bindW (.tup [14, 15]) u { σ₂ with own := frozen (.lst L) σ₂.own } fun σ₂' => wpSs gv_law fns_law B_law_1 σ₂' fun fl σ₃ => match fl with
        | .next => J (i + 1) { σ₃ with own := thawed (.lst L) σ₂.own σ₃.own } | .ret w => P (.ret w) { σ₃ with own := thawed (.lst L) σ₂.own σ₃.own }) ∧ (∀ σ₂, J six8.length σ₂ → wpSs gv_law fns_law .nil σ₂ P) := by
  refine ⟨fun i σ' => (∀ n, n < 13 → σ'.loc n = σ₁.loc n) ∧ σ'.loc 13 = some (.int ((i : Int) * 2 ^ a)) ∧ σ'.objs[st]? = some ((stp (2 ^ a) i).map .int) ∧ st ∈ σ'.own ∧ σ'.objs[cl]? = some (cs.map .int), ⟨fun _ _ => rfl, by rw [f13]; simp, hst, hown, hcl⟩, ?_, ?_⟩
  · rintro i u σ₂ hu ⟨k1, k2, k3, k4, k5⟩
    have fin : ∀ (w : Nat) (way x : Int), u = .tup [.int w, .int way] → i ≤ 5 → w < 3 → way.natAbs ≤ 1 → (stp (2 ^ a) i).length = 3 → (stp (2 ^ a) i)[w]? = some x → (stp (2 ^ a) i).set w (x + way * p) = selZ i (2 ^ a) 0 (2 ^ a - p) p → (stp (2 ^ a) i).set w (x + way * 2 ^ a) = stp (2 ^ a) (i + 1) →
        bindW (.tup [14, 15]) u { σ₂ with own := frozen (.lst L) σ₂.own } fun σ₂' => wpSs gv_law fns_law B_law_1 σ₂' fun fl σ₃ => match fl with
          | .next => ((∀ n, n < 13 → σ₃.loc n = σ₁.loc n) ∧ σ₃.loc 13 = some (.int (((i + 1 : Nat) : Int) * 2 ^ a)) ∧ σ₃.objs[st]? = some ((stp (2 ^ a) (i + 1)).map .int) ∧ st ∈ thawed (.lst L) σ₂.own σ₃.own ∧ σ₃.objs[cl]? = some (cs.map .int)) | .ret w => P (.ret w) { σ₃ with own := thawed (.lst L) σ₂.own σ₃.own } := by
      rintro w way x rfl hi hw hway hlen hx hth hnx
      refine b_tup rfl ?_
      simp only [setAll]
      have g : ∀ n, n < 14 → ((({ σ₂ with own := frozen (.lst L) σ₂.own } : St).set 14 (.int w)).set 15 (.int way)).loc n = σ₂.loc n := fun n hn => loc_set_ne (by omega) (loc_set_ne (by omega) rfl)
      have g' : ∀ n, n < 13 → ((({ σ₂ with own := frozen (.lst L) σ₂.own } : St).set 14 (.int w)).set 15 (.int way)).loc n = σ₁.loc n := fun n hn => (g n (by omega)).trans (k1 n hn)
      refine body08 (T := T) (k := i) (p := p) (S := S) (V := V) (way := way) (x := x) (ss := stp (2 ^ a) i) ⟨(g' _ (by decide)).trans f2, (g' _ (by decide)).trans f3, (g' _ (by decide)).trans f4, (g' _ (by decide)).trans f7, (g' _ (by decide)).trans f8, (g' _ (by decide)).trans f9, (g' _ (by decide)).trans f10, (g' _ (by decide)).trans f11, (g' _ (by decide)).trans f12, (g _ (by decide)).trans k2, loc_set_ne (by decide) loc_set_eq, loc_set_eq⟩
        ⟨k3, mem_frozen k4 hne, hlen, hw, hx⟩ habc hi hp hS hV hway ?_ hth ?_
      · have h1 : i * 2 ^ a ≤ 5 * 2 ^ a := Nat.mul_le_mul_right _ hi
        rw [Nat.add_mul]
        omega
      · rw [hnx]
        intro σ' q1 q2 q3 q4 q5
        refine ⟨fun n hn => (q1 n hn).trans (g' n hn), ?_, q3, mem_thawed q4, q5 _ _ hcs k5⟩
        rw [q2]
        congr 2
        push_cast
        grind
    match i, hu, fin with
    | 0, hu, fin => cases hu; exact fin 1 1 0 rfl (by decide) (by decide) (by decide) rfl rfl (by simp [stp, selZ]) (by simp [stp])
    | 1, hu, fin => cases hu; exact fin 0 (-1) (2 ^ a) rfl (by decide) (by decide) (by decide) rfl rfl (by simp [stp, selZ]; omega) (by simp [stp]; omega)
    | 2, hu, fin => cases hu; exact fin 2 1 0 rfl (by decide) (by decide) (by decide) rfl rfl (by simp [stp, selZ]) (by simp [stp])
    | 3, hu, fin => cases hu; exact fin 1 (-1) (2 ^ a) rfl (by decide) (by decide) (by decide) rfl rfl (by simp [stp, selZ]; omega) (by simp [stp]; omega)
    | 4, hu, fin => cases hu; exact fin 0 1 0 rfl (by decide) (by decide) (by decide) rfl rfl (by simp [stp, selZ]) (by simp [stp])
    | 5, hu, fin => cases hu; exact fin 2 (-1) (2 ^ a) rfl (by decide) (by decide) (by decide) rfl rfl (by simp [stp, selZ]; omega) (by simp [stp]; omega)
    | i + 6, hu, fin => cases hu
  · rintro σ₂ ⟨k1, _, _, _, k5⟩
    exact i_nil (hP _ k1 k5)

open PySem PySem.W PySem.Float64



theorem nat_of {z : Int} {m : Nat} (h0 : 0 ≤ z) (h : z < (2 : Int) ^ m) : ∃ p : Nat, z = p ∧ p < 2 ^ m := by
  obtain ⟨p, rfl⟩ := Int.eq_ofNat_of_zero_le h0
  exact ⟨p, rfl, by exact_mod_cast h⟩
theorem turns_fit {a : Nat} (ha : a ≤ 48) {z : Int} : ∃ T : Nat, ((2 : Int) ^ (51 - a)).fdiv 3 ≠ 0 ∧ z.fmod (((2 : Int) ^ (51 - a)).fdiv 3) = T ∧ T * 6 * 2 ^ a + 6 * 2 ^ a ≤ 2 ^ 52 := by
  have h8 : (2 : Int) ^ 3 ≤ 2 ^ (51 - a) := by exact_mod_cast Nat.pow_le_pow_right (by decide) (by omega)
  have hq : ((2 : Int) ^ (51 - a)).fdiv 3 = 2 ^ (51 - a) / 3 := Int.fdiv_eq_ediv_of_nonneg _ (by decide)
  have hpos : 0 < ((2 : Int) ^ (51 - a)).fdiv 3 := by rw [hq]; omega
  obtain ⟨m0, m1⟩ := mod_rng z hpos
  obtain ⟨T, hT⟩ := Int.eq_ofNat_of_zero_le m0
  refine ⟨T, by omega, hT, ?_⟩
  rw [hT, hq] at m1
  have h3 : ((T : Int) + 1) * 3 ≤ 2 ^ (51 - a) := by omega
  have h4 : (T + 1) * 3 ≤ 2 ^ (51 - a) := by exact_mod_cast h3
  have h5 := Nat.mul_le_mul_right (2 * 2 ^ a) h4
  have h6 : 2 ^ (51 - a) * (2 * 2 ^ a) = 2 ^ 52 := by
    rw [← Nat.pow_succ', ← Nat.pow_add]
    congr 1
    omega
  rw [h6] at h5
  have h7 : (T + 1) * 3 * (2 * 2 ^ a) = T * 6 * 2 ^ a + 6 * 2 ^ a := by grind
  omega
theorem turn08 {σ : St} {k : Int} {cl a b c : Nat} {cs : List Int} {P : Fl → St → Prop} (f2 : σ.loc 2 = some (.int a)) (f3 : σ.loc 3 = some (.int b)) (f4 : σ.loc 4 = some (.int c)) (f5 : σ.loc 5 = some (.lst cl)) (f6 : σ.loc 6 = some (.int k)) (habc : a + b + c = 48)
    (ho : σ.objs[cl]? = some (cs.map .int)) (h0 : 0 ≤ k) (hk : k + 2 < cs.length) (hcs : cs.length ≤ 200)
    (hP : ∀ σ' : St, (∀ n, n < 6 → σ'.loc n = σ.loc n) → σ'.objs[cl]? = some (cs.map .int) → P .next σ') : wpSs gv_law fns_law B_law_2 σ P := by
  have A := pow_pos_int a
  have Bp := pow_pos_int b
  have Cp := pow_pos_int c
  have a48 := pow48 (a := a) (by omega)
  have b48 := pow48 (a := b) (by omega)
  have c48 := pow48 (a := c) (by omega)
  have hcl : cl < σ.objs.length := (List.getElem?_eq_some_iff.mp ho).1
  obtain ⟨z0, e0⟩ := get_of cs (n := k.toNat) (by omega)
  obtain ⟨z1, e1⟩ := get_of cs (n := (k + 1).toNat) (by omega)
  obtain ⟨z2, e2⟩ := get_of cs (n := (k + 2).toNat) (by omega)
  unfold B_law_2
  repeat' (first | walk_at "ev" | dsimp only)
  refine s_item rfl ho h0 (by omega) (by rw [List.getElem?_map, e0]; rfl) ?_
  repeat' (first | walk_at "ev" | refine o_pow2' _ rfl (by omega) ?_ | dsimp only)
  refine o_modI (nz_pow a) ?_
  repeat' (first | walk_at "ev" | dsimp only)
  refine s_item rfl ho h0 (by omega) (by rw [List.getElem?_map, e0]; rfl) ?_
  repeat' (first | walk_at "ev" | refine o_pow2' _ rfl (by omega) ?_ | dsimp only)
  refine o_fdivI (nz_pow a) (log_small (by omega)) ?_
  repeat' (first | walk_at "ev" | refine o_pow2' (51 - a) (by omega) (by omega) ?_ | dsimp only)
  refine o_fdivI (by decide) (by decide) ?_
  obtain ⟨T, t1, t2, t3⟩ := turns_fit (a := a) (by omega) (z := z0.fdiv (2 ^ a))
  refine o_modI t1 ?_
  rw [t2]
  repeat' (first | walk_at "ev" | refine o_pow2' _ rfl (by omega) ?_ | dsimp only)
  refine s_item rfl ho (by omega) (by omega) (by rw [List.getElem?_map, e1]; rfl) ?_
  repeat' (first | walk_at "ev" | refine o_pow2' _ rfl (by omega) ?_ | dsimp only)
  refine o_modI (by omega) ?_
  repeat' (first | walk_at "ev" | refine o_pow2' _ rfl (by omega) ?_ | dsimp only)
  refine s_item rfl ho (by omega) (by omega) (by rw [List.getElem?_map, e2]; rfl) ?_
  repeat' (first | walk_at "ev" | refine o_pow2' _ rfl (by omega) ?_ | dsimp only)
  refine o_modI (by omega) ?_
  have m0 := mod_rng z0 (b := 2 ^ a) A
  have m1 := mod_rng (2 ^ b - z1) (b := 2 ^ b + 1) (by omega)
  have m2 := mod_rng (2 ^ c - z2) (b := 2 ^ c + 1) (by omega)
  obtain ⟨p, hp, hp'⟩ := nat_of m0.1 m0.2
  rw [hp]
  generalize (2 ^ b - z1).fmod (2 ^ b + 1) = S at *
  generalize (2 ^ c - z2).fmod (2 ^ c + 1) = V at *
  have vb : 0 ≤ V * (2 ^ b - S) ∧ V * (2 ^ b - S) ≤ 2 ^ c * 2 ^ b := mul_in ⟨m2.1, by omega⟩ ⟨by omega, by omega⟩
  have cb : (2 : Int) ^ c * 2 ^ b ≤ 2 ^ 48 := by rw [← Int.pow_add]; exact pow48 (by omega)
  have vb' : (V * (2 ^ b - S)).natAbs < 2 ^ 64 := by omega
  repeat' (first | walk_at "ev" | refine o_pow2' _ rfl (by omega) ?_ | refine o_mulI (mulOk_l vb') ?_ | refine o_mulI (mulOk_l (by omega)) ?_ | dsimp only)
  refine l_new rfl (show 3 ≤ sizeLine by decide) ?_
  repeat' (first | walk_at "ev" | dsimp only)
  refine i_for ?_
  repeat' (first | walk_at "ev" | (refine ⟨show 2 ≤ sizeLine by decide, ?_⟩) | (refine ⟨1, rfl, ?_⟩) | dsimp only)
  refine l_new rfl (show 6 ≤ sizeLine by decide) ?_
  refine t_lst (l := six8) rfl get_last ?_
  refine loop08 (a := a) (b := b) (c := c) (p := p) (T := T) (S := S) (V := V) (st := σ.objs.length) (cl := cl) (cs := cs) habc hp' ⟨m1.1, by omega⟩ ⟨m2.1, by omega⟩ t3 (by walk_at "ev loc") (by walk_at "ev loc") (by walk_at "ev loc") (by walk_at "ev loc") (by walk_at "ev loc") (by walk_at "ev loc") (by walk_at "ev loc") (by walk_at "ev loc") (by walk_at "ev loc") (by walk_at "ev loc") (get_app get_last) ?_ ?_ (get_app (get_app ho)) (by omega) ?_
  · exact List.mem_cons_of_mem _ (List.mem_cons_self ..)
  · show σ.objs.length ≠ (σ.objs ++ [_]).length
    simp
  · intro σ' q1 q2
    refine hP σ' (fun n hn => ?_) q2
    rw [q1 n (by omega)]
    simp only [St.set, St.alloc, upd]
    repeat rw [if_neg (by omega)]

open PySem PySem.W PySem.Float64



theorem small0 {n : Int} (h0 : 0 ≤ n) (h : n ≤ 100) : Builtin.Range.small 0 n 3 = true := by
  have key : ∀ k : Fin 101, Builtin.Range.small 0 (k.val : Int) 3 = true := by decide +kernel
  obtain ⟨m, rfl⟩ := Int.eq_ofNat_of_zero_le h0
  exact key ⟨m, by omega⟩
theorem ints_map : ∀ ms : List Int, intsOf (ms.map .int) = some ms
  | [] => rfl
  | a :: r => by simp [intsOf, ints_map r]
noncomputable def mid : PSs := dropS (dropS B_law)
theorem mid08 {σ : St} {sc : Nat} {ms : List Int} {f : Int} (f0 : σ.loc 0 = some (.lst sc)) (f1 : σ.loc 1 = some (.int f)) (ho : σ.objs[sc]? = some (ms.map .int)) (hml : ms.length ≤ 63) :
    wpSs gv_law fns_law mid σ fun fl _ => fl = .ret (.bool true) := by
  unfold mid dropS B_law
  dsimp only
  repeat' (first | walk_at "ev" | dsimp only)
  refine o_modI (by decide) ?_
  have m1 := mod_rng (16 + f) (b := 49) (by decide)
  obtain ⟨a, ha⟩ := Int.eq_ofNat_of_zero_le m1.1
  rw [ha] at m1 ⊢
  repeat' (first | walk_at "ev" | refine o_fdivI (by decide) (by decide) ?_ | dsimp only)
  refine o_modI (by omega) ?_
  have m2 := mod_rng (16 + f.fdiv 49) (b := 49 - (a : Int)) (by omega)
  obtain ⟨b, hb⟩ := Int.eq_ofNat_of_zero_le m2.1
  rw [hb] at m2 ⊢
  obtain ⟨c, hc⟩ : ∃ c : Nat, a + b + c = 48 := ⟨48 - a - b, by omega⟩
  have b48 := pow48 (a := b) (by omega)
  have Bp := pow_pos_int b
  repeat' (first | walk_at "ev" | refine o_pow2' _ rfl (by omega) ?_ | refine ⟨1, rfl, ?_⟩ | dsimp only)
  have ec : (48 : Int) - a - b = (c : Nat) := by omega
  rw [ec]
  refine l_new rfl (show 12 ≤ sizeLine by decide) ?_
  repeat' (first | walk_at "ev" | dsimp only)
  refine ⟨1, rfl, s_slice rfl (get_app ho) (by simp [sizeLine]; omega) ?_⟩
  rw [pick_map]
  have hpl := pick_len ms (some 1) none
  generalize pick ms (some 1) none = ts at *
  refine o_addL rfl (get_app get_last) get_last (by simp [sizeLine]; omega) ?_
  repeat' (first | walk_at "ev" | dsimp only)
  refine l_new rfl (show 2 ≤ sizeLine by decide) ?_
  refine o_addL rfl (get_app get_last) get_last (by simp [sizeLine]; omega) ?_
  obtain ⟨cs, hcs, hc1, hc2⟩ : ∃ cs : List Int, (([AV.int 12345, .int 23458, .int 34570, .int (2 ^ a), .int 23458, .int 34570, .int 1, .int (-1), .int 34570, .int 1, .int 23458, .int (-1)] ++ ts.map .int) ++ [AV.int 0, .int 0] : List AV) = cs.map .int ∧ 8 ≤ cs.length ∧ cs.length ≤ 100 :=
    ⟨[12345, 23458, 34570, 2 ^ a, 23458, 34570, 1, -1, 34570, 1, 23458, -1] ++ ts ++ [0, 0], by simp, by simp, by simp; omega⟩
  rw [hcs]
  refine i_for ?_
  repeat' (first | walk_at "ev" | dsimp only)
  refine k_len rfl get_last (by simp; omega) ?_
  rw [List.length_map]
  repeat' (first | walk_at "ev" | dsimp only)
  refine k_range3 (by decide) (by decide) ?_
  refine t_rng (small0 (by omega) (by omega)) (by decide) ?_
  refine ⟨fun _ σ' => ∃ d : Nat, (σ'.loc 2 = some (AV.int a) ∧ σ'.loc 3 = some (AV.int b) ∧ σ'.loc 4 = some (AV.int c) ∧ σ'.loc 5 = some (AV.lst d)) ∧ σ'.objs[d]? = some (cs.map AV.int), ⟨_, ⟨by walk_at "ev loc", by walk_at "ev loc", by walk_at "ev loc", loc_set_eq⟩, get_last⟩, ?_, ?_⟩
  · rintro i u σ₂ hu ⟨d, ⟨g2, g3, g4, g5⟩, go⟩
    obtain ⟨hi, rfl⟩ := rng_get hu
    have hlt := range_lt (by decide) hi
    refine b_name ?_
    refine turn08 (k := 0 + (i : Int) * 3) (a := a) (b := b) (c := c) (cs := cs) (by walk_at "ev loc") (by walk_at "ev loc") (by walk_at "ev loc") (by walk_at "ev loc") loc_set_eq hc go (by omega) (by omega) (by omega) fun σ' k1 k2 => ?_
    exact ⟨d, ⟨(k1 2 (by decide)).trans g2, (k1 3 (by decide)).trans g3, (k1 4 (by decide)).trans g4, (k1 5 (by decide)).trans g5⟩, k2⟩
  · intro σ₂ _
    exact i_ret (i_const rfl)
theorem plain08 (ns : List Int) (hn : ns.length ≤ 63) : wpSs gv_law fns_law B_law ⟨fun i => if i = 0 then some (.lst 0) else none, [ns.map .int], []⟩ fun fl _ => fl = .ret (.bool true) := by
  show wpSs gv_law fns_law (.cons _ (.cons _ mid)) _ _
  repeat' (first | walk_at "ev" | dsimp only)
  refine ⟨63, rfl, s_slice rfl rfl (by simp [sizeLine]; omega) ?_⟩
  rw [pick_map]
  generalize hms : pick ns none (some 63) = ms
  have hml : ms.length ≤ 63 := by have := pick_len ns none (some 63); rw [hms] at this; omega
  repeat' (first | walk_at "ev" | dsimp only)
  refine l_new rfl (show 0 ≤ sizeLine by decide) ?_
  refine c_neL (l := ms.map .int) (k := []) (ns := ms) (ms := []) rfl rfl rfl (ints_map ms) rfl ?_
  refine i_truth ⟨fun hne => ?_, fun _ => ?_⟩
  · refine i_sub (i_loc (by walk_at "ev loc") (i_const ?_))
    cases ms with
    | nil => simp at hne
    | cons f r =>
      refine s_item rfl rfl (by decide) (by decide) (v := .int f) rfl ?_
      exact mid08 (sc := 1) (ms := f :: r) (by walk_at "ev loc") loc_set_eq rfl hml
  · refine i_const ?_
    exact mid08 (sc := 1) (ms := ms) (by walk_at "ev loc") loc_set_eq rfl hml


end Mine

theorem PySem.Challenge.cw_dm0026_08_holds : PySem.Challenge.rw_dm0026_08.Holds := by
  refine Mine.hd08 ?_
  k_go0
  rename Top _ _ _ _ _ _ => T
  rename Fr _ _ _ _ => F
  rename News _ _ _ _ => N
  rename LooseAre _ _ _ => V
  rename IntsAre _ _ => hI
  rename Heap.IsList _ _ _ => hL
  rename _ = #[] => hg
  rename ¬ _ < _ => hlen
  rename Frag.In _ _ => KX
  refine Mine.law_start63 T (Mine.nb_of (KX cStatics _ (by kernel_rfl))) F N hL hI rfl (by decide) ?cells (K := Mine.K_law) (ps := Mine.dropS Mine.B_law) (gval := Mine.gv_law) (fns := Mine.fns_law) (fa := Mine.faOf _ _ ["_law_floats", "hsv_to_rgb", "rgb_to_hsv"]) (by decide +kernel) rfl rfl rfl rfl rfl rfl (fun C h1 h2 h3 h4 h5 Fo => Mine.ok_law (Mine.facts T V) 7 C h1 h2 h3 h4 Fo (Mine.topC_names h5 (by decide +kernel)) (Mine.topC_globs h5 (by decide +kernel)) (Mine.topC_cells h5 (by decide +kernel) (by decide +kernel))) (Mine.plain08 _ (by omega)) ?_
  case cells =>
    intro x hx
    rcases List.mem_cons.mp hx with rfl | hx
    · first | exact ⟨_, _, rfl, .head _, _, by assumption⟩ | exact ⟨_, _, rfl, .tail _ (.head _), _, by assumption⟩ | exact ⟨_, _, rfl, .tail _ (.tail _ (.head _)), _, by assumption⟩
    · rcases List.mem_cons.mp hx with rfl | hx
      · first | exact ⟨_, _, rfl, .head _, _, by assumption⟩ | exact ⟨_, _, rfl, .tail _ (.head _), _, by assumption⟩ | exact ⟨_, _, rfl, .tail _ (.tail _ (.head _)), _, by assumption⟩
      · rcases List.mem_cons.mp hx with rfl | hx
        · first | exact ⟨_, _, rfl, .head _, _, by assumption⟩ | exact ⟨_, _, rfl, .tail _ (.head _), _, by assumption⟩ | exact ⟨_, _, rfl, .tail _ (.tail _ (.head _)), _, by assumption⟩
        · cases hx
  intro h' tk m' F'
  exact goodW_bool F' hg (fun _ => rfl) (by kernel_rfl) rfl
