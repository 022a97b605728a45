import PyProof.Rows.All
import Wide.All
import OpenK.AllK
import Wide.FinOn
import PySem.Challenge.RW_dm0026_01
open PySem PySem.W PyProof.Rows
set_option Elab.async false
set_option maxRecDepth 100000
set_option maxHeartbeats 8000000
set_option linter.unusedVariables false
namespace Mine
open_top hd01 for PySem.Challenge.rw_dm0026_01
end Mine
set_option autoImplicit false
namespace Mine
open PySem PySem.W PySem.Calls PyProof.Rows PyProof.V PySem.Spec

inductive Bi where
  | len | abs | min | max | sorted | round | isinstance | sum
def Bi.id : Bi → String
  | .len => "len" | .abs => "abs" | .min => "min" | .max => "max" | .sorted => "sorted" | .round => "round" | .isinstance => "isinstance" | .sum => "sum"
inductive Ty where
  | int | float | tuple | list | range | str | bool | type
  deriving DecidableEq
def Ty.name : Ty → String
  | .int => "int" | .float => "float" | .tuple => "tuple" | .list => "list" | .range => "range" | .str => "str" | .bool => "bool" | .type => "type"

/-- plain values of the laws: what a Python value is, but for its token or its address -/
inductive AV where
  | none
  | bool (b : Bool)
  | int (i : Int)
  | float (x : UInt64)
  | str (s : Str)
  | typ (t : Ty)
  | bi (b : Bi)
  | fn (k : Nat)
  | tup (l : List AV)
  | lst (i : Nat)
  | rng (a b c : Int)

structure St where
  loc : Nat → Option AV
  objs : List (List AV)
  own : List Nat

def upd (ℓ : Nat → Option AV) (n : Nat) (v : AV) : Nat → Option AV := fun k => if k = n then some v else ℓ k

def St.set (σ : St) (n : Nat) (v : AV) : St := { σ with loc := upd σ.loc n v }
def St.alloc (σ : St) (l : List AV) : St := { σ with objs := σ.objs ++ [l], own := σ.objs.length :: σ.own }

mutual
inductive PE where
  | const (v : AV)
  | loc (n : Nat)
  | glob (j : Nat)
  | bin (op : Operator) (l r : PE)
  | neg (e : PE)
  | not (e : PE)
  | cmp (op : CmpOp) (l r : PE)
  | cmp2 (o₁ o₂ : CmpOp) (a b c : PE)
  | bools (isAnd : Bool) (es : PEs)
  | ite (c a b : PE)
  | call (f : PE) (args : PEs)
  | starcall (f : PE) (arg : PE)
  | sub (e i : PE)
  | slTo (e hi : PE)
  | slFrom (e lo : PE)
  | slAll (e lo hi : PE)
  | tuple (es : PEs)
  | list (es : PEs)
  | comp (elt : PE) (x : Nat) (iter : PE) (ifs : PEs)
inductive PEs where
  | nil
  | cons (e : PE) (es : PEs)
end

inductive Tgt where
  | name (n : Nat)
  | tup (ns : List Nat)

mutual
inductive PS where
  | assign (t : Tgt) (e : PE)
  | aug (n : Nat) (op : Operator) (e : PE)
  | ifs (c : PE) (a b : PSs)
  | for_ (t : Tgt) (iter : PE) (body : PSs)
  | ret (e : PE)
inductive PSs where
  | nil
  | cons (s : PS) (ss : PSs)
end

/-! ## the text and its plain form agree -/

structure Keys where
  names : List Str
  globs : List Str

def mC : AV → Const → Bool
  | .none, .none => true
  | .bool b, .bool c => b == c
  | .int i, .int j => i == j
  | .float x, .float y => x == y
  | .str s, .str t => s == t
  | _, _ => false

mutual
def mE (K : Keys) : PE → Expr → Bool
  | .const v, .Constant c _ _ => mC v c
  | .loc n, .Name x _ => K.names[n]? == some x
  | .glob j, .Name x _ => K.globs[j]? == some x
  | .bin op l r, .BinOp l' op' r' _ => op == op' && (mE K l l' && mE K r r')
  | .neg e, .UnaryOp .USub e' _ => mE K e e'
  | .not e, .UnaryOp .Not e' _ => mE K e e'
  | .cmp op l r, .Compare l' [op'] [r'] _ => op == op' && (behindInMarks op' r' == false && (mE K l l' && mE K r r'))
  | .cmp2 o₁ o₂ a b c, .Compare a' [o₁', o₂'] [b', c'] _ => (o₁ == o₁' && o₂ == o₂') && (lastMarks [o₁', o₂'] [b', c'] == false && (mE K a a' && (mE K b b' && mE K c c')))
  | .bools true es, .BoolOp .And es' _ => mEs K es es'
  | .bools false es, .BoolOp .Or es' _ => mEs K es es'
  | .ite c a b, .IfExp c' a' b' _ => mE K c c' && (mE K a a' && mE K b b')
  | .call f args, .Call (.Name x p) (e' :: args') [] _ => mE K f (.Name x p) && mEs K args (e' :: args')
  | .tuple es, .Tuple es' _ _ => mEs K es es'
  | .list es, .List es' _ => mEs K es es'
  | .sub e i, .Subscript e' i' _ => (match i' with | .Slice .. => false | _ => true) && (mE K e e' && mE K i i')
  | .slTo e hi, .Subscript e' (.Slice none (some hi') none _) _ => mE K e e' && mE K hi hi'
  | .slFrom e lo, .Subscript e' (.Slice (some lo') none none _) _ => mE K e e' && mE K lo lo'
  | .slAll e lo hi, .Subscript e' (.Slice (some lo') (some hi') none _) _ => mE K e e' && (mE K lo lo' && mE K hi hi')
  | _, _ => false
def mEs (K : Keys) : PEs → List Expr → Bool
  | .nil, [] => true
  | .cons e es, e' :: es' => (match e' with | .Starred .. => false | _ => true) && (mE K e e' && mEs K es es')
  | _, _ => false
end

/-! ## what the plain form gives -/

def divII (a b : Int) : UInt64 := Float64.ofFrac (decide (a < 0) != decide (b < 0)) a.natAbs b.natAbs

def binW (op : Operator) (a b : AV) (σ : St) (Q : AV → St → Prop) : Prop :=
  match op, a, b with
  | .Add, .int x, .int y => Q (.int (x + y)) σ
  | .Sub, .int x, .int y => Q (.int (x - y)) σ
  | .Mult, .int x, .int y => IntMulOk x y ∧ Q (.int (x * y)) σ
  | .FloorDiv, .int x, .int y => (y ≠ 0 ∧ y.natAbs.log2 < 9000) ∧ Q (.int (x.fdiv y)) σ
  | .Mod, .int x, .int y => y ≠ 0 ∧ Q (.int (x.fmod y)) σ
  | .Pow, .int x, .int n => (0 ≤ n ∧ n ≤ 1000000 ∧ x.natAbs < 2 ^ 64) ∧ Q (.int (x ^ n.toNat)) σ
  | .Div, .int x, .int y => (y ≠ 0 ∧ x.natAbs < 2 ^ 1023) ∧ Q (.float (divII x y)) σ
  | .Add, .float x, .float y => Q (.float (Float64.add x y)) σ
  | .Sub, .float x, .float y => Q (.float (Float64.sub x y)) σ
  | .Mult, .float x, .float y => Q (.float (Float64.mul x y)) σ
  | .Div, .float x, .float y => Float64.isZero y = false ∧ Q (.float (Float64.div x y)) σ
  | .Mod, .float x, .float y => Float64.isZero y = false ∧ Q (.float (Float64.divmod x y).2) σ
  | .Add, .float x, .int n => n.natAbs < 2 ^ 1023 ∧ Q (.float (Float64.add x (Float64.ofInt n))) σ
  | .Sub, .float x, .int n => n.natAbs < 2 ^ 1023 ∧ Q (.float (Float64.sub x (Float64.ofInt n))) σ
  | .Mult, .float x, .int n => n.natAbs < 2 ^ 1023 ∧ Q (.float (Float64.mul x (Float64.ofInt n))) σ
  | .Add, .int n, .float x => n.natAbs < 2 ^ 1023 ∧ Q (.float (Float64.add (Float64.ofInt n) x)) σ
  | .Sub, .int n, .float x => n.natAbs < 2 ^ 1023 ∧ Q (.float (Float64.sub (Float64.ofInt n) x)) σ
  | .Mult, .int n, .float x => n.natAbs < 2 ^ 1023 ∧ Q (.float (Float64.mul (Float64.ofInt n) x)) σ
  | _, _, _ => False

def fcmp (op : CmpOp) (o : Option Ordering) : Bool :=
  match op with
  | .Eq => o == some .eq
  | .NotEq => !(o == some .eq)
  | .Lt => o == some .lt
  | .LtE => o == some .lt || o == some .eq
  | .Gt => o == some .gt
  | .GtE => o == some .gt || o == some .eq
  | _ => false

def icmp (op : CmpOp) (x y : Int) : Bool :=
  match op with
  | .Eq => x == y
  | .NotEq => x != y
  | .Lt => decide (x < y)
  | .LtE => decide (x ≤ y)
  | .Gt => decide (x > y)
  | .GtE => decide (x ≥ y)
  | _ => false

def isOrd : CmpOp → Bool
  | .Eq | .NotEq | .Lt | .LtE | .Gt | .GtE => true
  | _ => false

def cmpW (op : CmpOp) (a b : AV) (Q : Bool → Prop) : Prop :=
  match a, b with
  | .int x, .int y => isOrd op = true ∧ Q (icmp op x y)
  | .float x, .float y => isOrd op = true ∧ Q (fcmp op (Float64.cmp x y))
  | _, _ => False

def truth (σ : St) : AV → Option Bool
  | .bool b => some b
  | .int i => some (i != 0)
  | .lst i => (σ.objs[i]?).bind fun l => if l.length < 2 ^ 40 then some (!l.isEmpty) else none
  | _ => none
def truthW (v : AV) (σ : St) (Q : Bool → Prop) : Prop :=
  match v with
  | .bool b => Q b
  | .int i => Q (i != 0)
  | .lst i => ∃ l, σ.objs[i]? = some l ∧ l.length < 2 ^ 40 ∧ Q (!l.isEmpty)
  | _ => False
theorem truthW_iff {v : AV} {σ : St} {Q : Bool → Prop} : truthW v σ Q ↔ ∃ b, truth σ v = some b ∧ Q b := by
  unfold truthW truth
  split
  · simp
  · simp
  · rename_i i
    constructor
    · rintro ⟨l, h, hz, q⟩; exact ⟨_, by rw [h]; simp [hz], q⟩
    · rintro ⟨b, h, q⟩
      cases hl : σ.objs[i]? with
      | none => rw [hl] at h; cases h
      | some l =>
        rw [hl] at h
        simp only [Option.bind_some] at h
        split at h
        · rename_i hz; cases h; exact ⟨l, rfl, hz, q⟩
        · cases h
  · simp

def pick {α : Type} (l : List α) (lo hi : Option Int) : List α := (l.drop (kms_lo lo l.length)).take (kms_hi hi l.length - kms_lo lo l.length)

abbrev Fns := Nat → List AV → List (List AV) → (AV → List (List AV) → Prop) → Prop

/-- a list of plain ints, told as such -/
def intsOf : List AV → Option (List Int)
  | [] => some []
  | .int i :: r => (intsOf r).map (i :: ·)
  | _ => .none

def binL (op : Operator) (a b : AV) (σ : St) (Q : AV → St → Prop) : Prop :=
  match op, a, b with
  | .Add, .lst i, .lst j => ∃ l k, σ.objs[i]? = some l ∧ σ.objs[j]? = some k ∧ l.length + k.length ≤ sizeLine ∧ Q (.lst σ.objs.length) (σ.alloc (l ++ k))
  | op, a, b => binW op a b σ Q

def cmpL (op : CmpOp) (a b : AV) (σ : St) (Q : Bool → Prop) : Prop :=
  match a, b with
  | .lst i, .lst j => ∃ l k, ∃ ns ms : List Int, (σ.objs[i]? = some l ∧ σ.objs[j]? = some k) ∧ (intsOf l = some ns ∧ intsOf k = some ms) ∧
      ((op = .Eq ∧ Q (decide (ns = ms))) ∨ (op = .NotEq ∧ Q (!decide (ns = ms))))
  | a, b => cmpW op a b Q

def subW (o i : AV) (σ : St) (Q : AV → St → Prop) : Prop :=
  match o, i with
  | .lst j, .int k => ∃ l v, σ.objs[j]? = some l ∧ (0 ≤ k ∧ k < 2 ^ 63) ∧ l[k.toNat]? = some v ∧ Q v σ
  | _, _ => False

def sliceW (o : AV) (lo hi : Option Int) (σ : St) (Q : AV → St → Prop) : Prop :=
  match o with
  | .lst j => ∃ l, σ.objs[j]? = some l ∧ l.length ≤ sizeLine ∧ Q (.lst σ.objs.length) (σ.alloc (pick l lo hi))
  | _ => False

def callW (fns : Fns) (f : AV) (args : List AV) (σ : St) (Q : AV → St → Prop) : Prop :=
  match f, args with
  | .fn k, args => fns k args σ.objs (fun v objs => Q v { σ with objs := objs })
  | .bi .len, [.lst i] => ∃ l, σ.objs[i]? = some l ∧ l.length < 2 ^ 40 ∧ Q (.int l.length) σ
  | .bi .abs, [.int x] => Q (.int (if x < 0 then -x else x)) σ
  | .bi .min, [.int x, .int y] => Q (.int (if y < x then y else x)) σ
  | .bi .max, [.int x, .int y] => Q (.int (if y > x then y else x)) σ
  | .typ .range, [.int b] => Q (.rng 0 b 1) σ
  | .typ .range, [.int a, .int b, .int c] => (c ≠ 0 ∧ c.natAbs.log2 < 9000) ∧ Q (.rng a b c) σ
  | _, _ => False

def AV.callable : AV → Bool
  | .fn _ | .bi _ | .typ _ => true
  | _ => false

mutual
def wpE (g : Nat → Option AV) (fns : Fns) : PE → St → (AV → St → Prop) → Prop
  | .const v, σ, Q => Q v σ
  | .loc n, σ, Q => ∃ v, σ.loc n = some v ∧ Q v σ
  | .glob j, σ, Q => ∃ v, g j = some v ∧ Q v σ
  | .bin op l r, σ, Q => wpE g fns l σ fun a σ₁ => wpE g fns r σ₁ fun b σ₂ => binL op a b σ₂ Q
  | .neg e, σ, Q => wpE g fns e σ fun v σ₁ => ∃ i, v = .int i ∧ Q (.int (-i)) σ₁
  | .not e, σ, Q => wpE g fns e σ fun v σ₁ => truthW v σ₁ fun b => Q (.bool (!b)) σ₁
  | .cmp op l r, σ, Q => wpE g fns l σ fun a σ₁ => wpE g fns r σ₁ fun b σ₂ => cmpL op a b σ₂ fun c => Q (.bool c) σ₂
  | .cmp2 o₁ o₂ a b c, σ, Q => wpE g fns a σ fun x σ₁ => wpE g fns b σ₁ fun y σ₂ => cmpL o₁ x y σ₂ fun t =>
      (t = true → wpE g fns c σ₂ fun z σ₃ => cmpL o₂ y z σ₃ fun u => Q (.bool u) σ₃) ∧ (t = false → Q (.bool false) σ₂)
  | .bools isAnd es, σ, Q => wpBs g fns isAnd es σ Q
  | .ite c a b, σ, Q => wpE g fns c σ fun v σ₁ => truthW v σ₁ fun t => (t = true → wpE g fns a σ₁ Q) ∧ (t = false → wpE g fns b σ₁ Q)
  | .call f args, σ, Q => wpE g fns f σ fun fv σ₁ => fv.callable = true ∧ wpEs g fns args σ₁ fun vs σ₂ => callW fns fv vs σ₂ Q
  | .starcall _ _, _, _ => False
  | .sub e i, σ, Q => wpE g fns e σ fun o σ₁ => wpE g fns i σ₁ fun v σ₂ => subW o v σ₂ Q
  | .slTo e hi, σ, Q => wpE g fns e σ fun o σ₁ => wpE g fns hi σ₁ fun h σ₂ => ∃ k, h = .int k ∧ sliceW o none (some k) σ₂ Q
  | .slFrom e lo, σ, Q => wpE g fns e σ fun o σ₁ => wpE g fns lo σ₁ fun l σ₂ => ∃ k, l = .int k ∧ sliceW o (some k) none σ₂ Q
  | .slAll e lo hi, σ, Q => wpE g fns e σ fun o σ₁ => wpE g fns lo σ₁ fun l σ₂ => wpE g fns hi σ₂ fun h σ₃ => ∃ k j, l = .int k ∧ h = .int j ∧ sliceW o (some k) (some j) σ₃ Q
  | .tuple es, σ, Q => wpEs g fns es σ fun vs σ₁ => vs.length ≤ sizeLine ∧ Q (.tup vs) σ₁
  | .list es, σ, Q => wpEs g fns es σ fun vs σ₁ => vs.length ≤ sizeLine ∧ ∃ n, σ₁.objs.length = n ∧ Q (.lst n) (σ₁.alloc vs)
  | .comp _ _ _ _, _, _ => False
def wpEs (g : Nat → Option AV) (fns : Fns) : PEs → St → (List AV → St → Prop) → Prop
  | .nil, σ, Q => Q [] σ
  | .cons e es, σ, Q => wpE g fns e σ fun v σ₁ => wpEs g fns es σ₁ fun vs σ₂ => Q (v :: vs) σ₂
/-- the rest of an and | or behind a first value -/
def wpBs (g : Nat → Option AV) (fns : Fns) (isAnd : Bool) : PEs → St → (AV → St → Prop) → Prop
  | .nil, _, _ => False
  | .cons e es, σ, Q => wpE g fns e σ fun v σ₁ => wpBr g fns isAnd es v σ₁ Q
def wpBr (g : Nat → Option AV) (fns : Fns) (isAnd : Bool) : PEs → AV → St → (AV → St → Prop) → Prop
  | .nil, v, σ, Q => Q v σ
  | .cons e es, v, σ, Q => truthW v σ fun b => (b = isAnd → wpE g fns e σ fun u σ₁ => wpBr g fns isAnd es u σ₁ Q) ∧ (b = !isAnd → Q v σ)
end
/-- the truth of a test -/
abbrev wpT (g : Nat → Option AV) (fns : Fns) (e : PE) (σ : St) (Q : Bool → St → Prop) : Prop := wpE g fns e σ fun v σ₁ => truthW v σ₁ fun b => Q b σ₁

inductive Fl where
  | next
  | ret (v : AV)

/-- how many turns, and each turn's item -/
def itemsW (v : AV) (σ : St) (K : Nat → (Nat → AV) → Prop) : Prop :=
  match v with
  | .rng a b c => (Builtin.Range.small a b c = true ∧ 0 < c) ∧ K (Builtin.Range.rangeSize a b c).toNat fun i => .int (a + (i : Int) * c)
  | .lst j => ∃ l, σ.objs[j]? = some l ∧ K l.length fun i => l.getD i .none
  | _ => False

mutual
def wpS (g : Nat → Option AV) (fns : Fns) : PS → St → (Fl → St → Prop) → Prop
  | .assign (.name n) e, σ, Q => wpE g fns e σ fun v σ₁ => Q .next (σ₁.set n v)
  | .assign (.tup _) _, _, _ => False
  | .aug _ _ _, _, _ => False
  | .ifs c a b, σ, Q => wpE g fns c σ fun v σ₁ => truthW v σ₁ fun t => (t = true → wpSs g fns a σ₁ Q) ∧ (t = false → wpSs g fns b σ₁ Q)
  | .for_ (.name x) iter body, σ, Q => wpE g fns iter σ fun v σ₁ => itemsW v σ₁ fun n it => ∃ J : Nat → St → Prop, J 0 σ₁ ∧
      (∀ i σ₂, i < n → J i σ₂ → wpSs g fns body (σ₂.set x (it i)) fun fl σ₃ => match fl with | .next => J (i + 1) σ₃ | .ret v => Q (.ret v) σ₃) ∧ (∀ σ₂, J n σ₂ → Q .next σ₂)
  | .for_ (.tup _) _ _, _, _ => False
  | .ret e, σ, Q => wpE g fns e σ fun v σ₁ => Q (.ret v) σ₁
def wpSs (g : Nat → Option AV) (fns : Fns) : PSs → St → (Fl → St → Prop) → Prop
  | .nil, σ, Q => Q .next σ
  | .cons s ss, σ, Q => wpS g fns s σ fun fl σ₁ => match fl with | .next => wpSs g fns ss σ₁ Q | .ret v => Q (.ret v) σ₁
end

mutual
def mS (K : Keys) : PS → Stmt → Bool
  | .assign (.name n) e, .Assign [.Name x _] e' _ => K.names[n]? == some x && ((match e' with | .ListComp .. | .SetComp .. | .DictComp .. => false | _ => true) && mE K e e')
  | .ifs c a b, .If c' a' b' _ => mE K c c' && (mSs K a a' && mSs K b b')
  | .for_ (.name n) it body, .For (.Name x _) it' body' [] _ => K.names[n]? == some x && ((match it' with | .Set .. => false | _ => true) && (mE K it it' && mSs K body body'))
  | .ret e, .Return (some e') _ => mE K e e'
  | _, _ => false
def mSs (K : Keys) : PSs → List Stmt → Bool
  | .nil, [] => true
  | .cons s ss, s' :: ss' => mS K s s' && mSs K ss ss'
  | _, _ => false
end
end Mine
namespace Mine
open PySem PySem.W PySem.Calls PyProof.Rows PyProof.V PySem.Spec

abbrev Led := List (Addr × Obj)
abbrev tupObj (items : List Value) (n : Nat) : Obj := { cls := .type "tuple", data := .seq items.toArray n }
abbrev lstObj (items : List Value) (n : Nat) : Obj := { cls := .type "list", data := .seq items.toArray n }
abbrev rngObj (a b c : Int) (t u v : Tok) : Obj := { cls := .type "range", dict := none, data := .fields #[.int a t, .int b u, .int c v], slots := #[] }

/-- where the defs of the text stand, in the heap that the top has left -/
structure FA where
  addr : Nat → Addr
  top : Heap

/-- an object that is a list of these items -/
def IsL (o : Obj) (items : List Value) : Prop := o.cls = .type "list" ∧ ∃ n, o.data = .seq items.toArray n

def Held (base : Heap) (news : Led) (a : Addr) (o : Obj) : Prop := (a, o) ∈ news ∨ base.get? a = some o

mutual
inductive RV (base : Heap) (fa : FA) (ad : List Addr) (news : Led) : AV → Value → Prop
  | none : RV base fa ad news .none .none
  | bool (b : Bool) : RV base fa ad news (.bool b) (.bool b)
  | int (i : Int) (t : Tok) : RV base fa ad news (.int i) (.int i t)
  | float (x : UInt64) (t : Tok) : RV base fa ad news (.float x) (.float x t)
  | str (s : Str) (t : Tok) : RV base fa ad news (.str s) (.str s t)
  | typ (t : Ty) : RV base fa ad news (.typ t) (.type t.name)
  | bi (b : Bi) : RV base fa ad news (.bi b) (.builtin b.id)
  | fn (k : Nat) (o : Obj) (fd : FuncData) : fa.top.get? (fa.addr k) = some o → o.data = .func fd → RV base fa ad news (.fn k) (.ref (fa.addr k))
  | tup (l : List AV) (items : List Value) (a : Addr) (n : Nat) : Held base news a (tupObj items n) → RVs base fa ad news l items → RV base fa ad news (.tup l) (.ref a)
  | lst (i : Nat) (a : Addr) : ad[i]? = some a → RV base fa ad news (.lst i) (.ref a)
  | rng (a b c : Int) (r : Addr) (t u v : Tok) : Held base news r (rngObj a b c t u v) → RV base fa ad news (.rng a b c) (.ref r)
inductive RVs (base : Heap) (fa : FA) (ad : List Addr) (news : Led) : List AV → List Value → Prop
  | nil : RVs base fa ad news [] []
  | cons (v : AV) (vs : List AV) (c : Value) (cs : List Value) : RV base fa ad news v c → RVs base fa ad news vs cs → RVs base fa ad news (v :: vs) (c :: cs)
end

/-- the objects that a plain value may lean on -/
def good (o : Obj) : Prop := o.cls = .type "tuple" ∨ o.cls = .type "list" ∨ o.cls = .type "range"
/-- what lasts: addresses of lists, and what plain values lean on -/
structure LeT (ad : List Addr) (news : Led) (ad' : List Addr) (news' : Led) : Prop where
  pre : ∀ (i : Nat) (a : Addr), ad[i]? = some a → ad'[i]? = some a
  keep : ∀ (a : Addr) (o : Obj), (a, o) ∈ news → good o → (a, o) ∈ news'
/-- .. and every object -/
structure Le (ad : List Addr) (news : Led) (ad' : List Addr) (news' : Led) : Prop where
  pre : ∀ (i : Nat) (a : Addr), ad[i]? = some a → ad'[i]? = some a
  keep : ∀ (a : Addr) (o : Obj), (a, o) ∈ news → (a, o) ∈ news'

theorem Le.toT {ad ad' : List Addr} {news news' : Led} (h : Le ad news ad' news') : LeT ad news ad' news' := ⟨h.pre, fun a o m _ => h.keep a o m⟩
theorem Le.refl {ad : List Addr} {news : Led} : Le ad news ad news := ⟨fun _ _ h => h, fun _ _ h => h⟩
theorem Le.trans {ad ad' ad'' : List Addr} {news news' news'' : Led} (h : Le ad news ad' news') (k : Le ad' news' ad'' news'') : Le ad news ad'' news'' :=
  ⟨fun i a e => k.pre i a (h.pre i a e), fun a o m => k.keep a o (h.keep a o m)⟩
theorem Le.cons {ad : List Addr} {news : Led} {p : Addr × Obj} : Le ad news ad (p :: news) := ⟨fun _ _ h => h, fun _ _ h => .tail _ h⟩
theorem Le.snoc {ad : List Addr} {news : Led} {p : Addr × Obj} {a : Addr} : Le ad news (ad ++ [a]) (p :: news) :=
  ⟨fun i b h => by
    have hlt : i < ad.length := (List.getElem?_eq_some_iff.mp h).1
    rw [List.getElem?_append_left hlt]; exact h, fun _ _ h => .tail _ h⟩

theorem Held.leT {base : Heap} {ad ad' : List Addr} {news news' : Led} {a : Addr} {o : Obj} (h : Held base news a o) (k : LeT ad news ad' news') (n : good o) : Held base news' a o :=
  h.elim (fun m => .inl (k.keep a o m n)) .inr

mutual
theorem RV.leT {base : Heap} {fa : FA} {ad ad' : List Addr} {news news' : Led} (k : LeT ad news ad' news') : ∀ {v : AV} {c : Value}, RV base fa ad news v c → RV base fa ad' news' v c
  | _, _, .none => .none
  | _, _, .bool b => .bool b
  | _, _, .int i t => .int i t
  | _, _, .float x t => .float x t
  | _, _, .str s t => .str s t
  | _, _, .typ n => .typ n
  | _, _, .bi n => .bi n
  | _, _, .fn j o fd h h' => .fn j o fd h h'
  | _, _, .tup l items a n h hs => .tup l items a n (h.leT k (.inl rfl)) (RVs.leT k hs)
  | _, _, .lst i a h => .lst i a (k.pre i a h)
  | _, _, .rng a b c r t u v h => .rng a b c r t u v (h.leT k (.inr (.inr rfl)))
theorem RVs.leT {base : Heap} {fa : FA} {ad ad' : List Addr} {news news' : Led} (k : LeT ad news ad' news') : ∀ {v : List AV} {c : List Value}, RVs base fa ad news v c → RVs base fa ad' news' v c
  | _, _, .nil => .nil
  | _, _, .cons v vs c cs h hs => .cons v vs c cs (RV.leT k h) (RVs.leT k hs)
end
theorem RV.le {base : Heap} {fa : FA} {ad ad' : List Addr} {news news' : Led} (k : Le ad news ad' news') {v : AV} {c : Value} (h : RV base fa ad news v c) : RV base fa ad' news' v c := h.leT k.toT
theorem RVs.le {base : Heap} {fa : FA} {ad ad' : List Addr} {news news' : Led} (k : Le ad news ad' news') {v : List AV} {c : List Value} (h : RVs base fa ad news v c) : RVs base fa ad' news' v c := h.leT k.toT

structure Cx where
  prog : Program
  w : World
  A : Around
  env : Env
  base : Heap
  fa : FA
  K : Keys
  gval : Nat → Option AV
  fns : Fns

/-- the plain state tells of the heap, the frame's names and the ledger -/
structure Rel (C : Cx) (σ : St) (h : Heap) (m : Str → Option Value) (ad : List Addr) (news : Led) : Prop where
  F : Fr C.base C.env.locals h m
  N : News C.base C.env.locals h news
  loc : ∀ n v, σ.loc n = some v → ∃ x cv, C.K.names[n]? = some x ∧ m x = some cv ∧ RV C.base C.fa ad news v cv
  len : ad.length = σ.objs.length
  obj : ∀ (i : Nat) (l : List AV), σ.objs[i]? = some l → ∃ (a : Addr) (items : List Value) (o : Obj), ad[i]? = some a ∧ (Held C.base news a o ∧ IsL o items) ∧ RVs C.base C.fa ad news l items
  own : ∀ (i : Nat), i ∈ σ.own → ∃ (a : Addr) (o : Obj), ad[i]? = some a ∧ (a, o) ∈ news
  inj : ∀ (i j : Nat) (a : Addr), ad[i]? = some a → ad[j]? = some a → i = j

theorem Held.get {C : Cx} {σ : St} {h : Heap} {m : Str → Option Value} {ad : List Addr} {news : Led} {a : Addr} {o : Obj} (R : Rel C σ h m ad news) (x : Held C.base news a o) : h.get? a = some o :=
  x.elim (fun hm => (R.N _ hm).1) fun hb => R.F.keep _ _ hb

structure Rest (s s' : Shared) : Prop where
  eq : ∃ h tk, s' = { s with heap := h, toks := tk }
theorem Rest.refl {s : Shared} : Rest s s := ⟨_, _, rfl⟩
theorem Rest.trans {s s' s'' : Shared} (h : Rest s s') (k : Rest s' s'') : Rest s s'' := by
  obtain ⟨⟨_, _, rfl⟩⟩ := h
  obtain ⟨⟨_, _, rfl⟩⟩ := k
  exact ⟨⟨_, _, rfl⟩⟩
theorem Rest.mk' {s : Shared} {h : Heap} {tk : Nat} : Rest s { s with heap := h, toks := tk } := ⟨⟨_, _, rfl⟩⟩
theorem Rest.toks {s : Shared} {tk : Nat} : Rest s { s with toks := tk } := ⟨⟨_, _, rfl⟩⟩
theorem Rest.heap {s : Shared} {h : Heap} : Rest s { s with heap := h } := ⟨⟨_, _, rfl⟩⟩

/-- no way raises here -/
abbrev NoE : Value → Shared → Prop := fun _ _ => False
abbrev Wp (C : Cx) {α : Type} (t : Sem α) (Q : α → Shared → Prop) (s : Shared) : Prop := wpAny (model C.prog C.w) C.A t Q NoE s

def PostV (C : Cx) (Q : AV → St → Prop) (s : Shared) (ad : List Addr) (news : Led) (cv : Value) (s' : Shared) : Prop :=
  ∃ v σ' m' ad' news', Q v σ' ∧ RV C.base C.fa ad' news' v cv ∧ Rel C σ' s'.heap m' ad' news' ∧ Le ad news ad' news' ∧ Rest s s'
def PostVs (C : Cx) (Q : List AV → St → Prop) (s : Shared) (ad : List Addr) (news : Led) (cv : List Value) (s' : Shared) : Prop :=
  ∃ v σ' m' ad' news', Q v σ' ∧ RVs C.base C.fa ad' news' v cv ∧ Rel C σ' s'.heap m' ad' news' ∧ Le ad news ad' news' ∧ Rest s s'
def PostB (C : Cx) (Q : Bool → St → Prop) (s : Shared) (ad : List Addr) (news : Led) (b : Bool) (s' : Shared) : Prop :=
  ∃ σ' m' ad' news', Q b σ' ∧ Rel C σ' s'.heap m' ad' news' ∧ Le ad news ad' news' ∧ Rest s s'

theorem PostV.up {C : Cx} {Q : AV → St → Prop} {s₀ s : Shared} {ad₀ ad : List Addr} {news₀ news : Led} (k : Le ad₀ news₀ ad news) (r : Rest s₀ s) {cv : Value} {s' : Shared} (h : PostV C Q s ad news cv s') : PostV C Q s₀ ad₀ news₀ cv s' := by
  obtain ⟨v, σ', m', ad', news', q, rv, R, l, r'⟩ := h
  exact ⟨v, σ', m', ad', news', q, rv, R, k.trans l, r.trans r'⟩
theorem PostVs.up {C : Cx} {Q : List AV → St → Prop} {s₀ s : Shared} {ad₀ ad : List Addr} {news₀ news : Led} (k : Le ad₀ news₀ ad news) (r : Rest s₀ s) {cv : List Value} {s' : Shared} (h : PostVs C Q s ad news cv s') : PostVs C Q s₀ ad₀ news₀ cv s' := by
  obtain ⟨v, σ', m', ad', news', q, rv, R, l, r'⟩ := h
  exact ⟨v, σ', m', ad', news', q, rv, R, k.trans l, r.trans r'⟩
theorem PostB.up {C : Cx} {Q : Bool → St → Prop} {s₀ s : Shared} {ad₀ ad : List Addr} {news₀ news : Led} (k : Le ad₀ news₀ ad news) (r : Rest s₀ s) {cv : Bool} {s' : Shared} (h : PostB C Q s ad news cv s') : PostB C Q s₀ ad₀ news₀ cv s' := by
  obtain ⟨σ', m', ad', news', q, R, l, r'⟩ := h
  exact ⟨σ', m', ad', news', q, R, k.trans l, r.trans r'⟩

/-- a value that leaves the heap as it is -/
theorem PostV.here {C : Cx} {Q : AV → St → Prop} {σ : St} {s : Shared} {m : Str → Option Value} {ad : List Addr} {news : Led} {v : AV} {cv : Value} {tk : Nat} (R : Rel C σ s.heap m ad news) (q : Q v σ) (rv : RV C.base C.fa ad news v cv) :
    PostV C Q s ad news cv { s with toks := tk } := ⟨v, σ, m, ad, news, q, rv, R, Le.refl, Rest.toks⟩
theorem PostV.same {C : Cx} {Q : AV → St → Prop} {σ : St} {s : Shared} {m : Str → Option Value} {ad : List Addr} {news : Led} {v : AV} {cv : Value} (R : Rel C σ s.heap m ad news) (q : Q v σ) (rv : RV C.base C.fa ad news v cv) :
    PostV C Q s ad news cv s := ⟨v, σ, m, ad, news, q, rv, R, Le.refl, Rest.refl⟩

/-! ### operators -/
section
variable {C : Cx} {σ : St} {s : Shared} {m : Str → Option Value} {ad : List Addr} {news : Led}

theorem bin_sound {op : Operator} {a b : AV} {ca cb : Value} {Q : AV → St → Prop} (R : Rel C σ s.heap m ad news) (ra : RV C.base C.fa ad news a ca) (rb : RV C.base C.fa ad news b cb) (hh : C.A.handled = none)
    (q : binW op a b σ Q) : Wp C (binaryOp op ca cb) (PostV C Q s ad news) s := by
  unfold binW at q
  split at q <;> first | exact q.elim | (cases ra; cases rb)
  · exact PyProof.Rows.add_int (PostV.here R q (.int _ _))
  · exact PyProof.Rows.sub_int (PostV.here R q (.int _ _))
  · exact PyProof.Rows.mul_int (PostV.here R q.2 (.int _ _)) q.1
  · exact PyProof.Rows.floordiv_int q.1.1 (PostV.here R q.2 (.int _ _)) (.inl (PyProof.noPylong_of_log2 q.1.2))
  · exact PyProof.Rows.mod_int q.1 (PostV.here R q.2 (.int _ _))
  · exact PyProof.Rows.pow_int_small q.1.1 q.1.2.1 q.1.2.2 (PostV.here R q.2 (.int _ _))
  · exact Flt.div_ii_fits hh q.1.2 (fun e => absurd e q.1.1) (fun _ _ => PostV.here R q.2 (.float _ _))
  · exact PyProof.Rows.add_float (PostV.here R q (.float _ _))
  · exact PyProof.Rows.sub_float (PostV.here R q (.float _ _))
  · exact PyProof.Rows.mul_float (PostV.here R q (.float _ _))
  · exact PyProof.Rows.truediv_float_or hh (fun e => by rw [q.1] at e; cases e) (fun _ => PostV.here R q.2 (.float _ _))
  · exact Flt.mod_ff hh (fun e => by rw [q.1] at e; cases e) (fun _ => PostV.here R q.2 (.float _ _))
  · exact PyProof.Rows.add_fi_fits q.1 (PostV.here R q.2 (.float _ _))
  · exact PyProof.Rows.sub_fi_fits q.1 (PostV.here R q.2 (.float _ _))
  · exact PyProof.Rows.mul_fi_fits q.1 (PostV.here R q.2 (.float _ _))
  · exact PyProof.Rows.add_if_fits q.1 (PostV.here R q.2 (.float _ _))
  · exact PyProof.Rows.sub_if_fits q.1 (PostV.here R q.2 (.float _ _))
  · exact PyProof.Rows.mul_if_fits q.1 (PostV.here R q.2 (.float _ _))

theorem cmp_sound {op : CmpOp} {a b : AV} {ca cb : Value} {Q : Bool → Prop} (R : Rel C σ s.heap m ad news) (ra : RV C.base C.fa ad news a ca) (rb : RV C.base C.fa ad news b cb) (hh : C.A.handled = none)
    (q : cmpW op a b Q) : Wp C (compareOp op ca cb) (fun cv s' => ∃ c, cv = .bool c ∧ s' = s ∧ Q c) s := by
  unfold cmpW at q
  split at q <;> first | exact q.elim | (cases ra; cases rb)
  · cases op <;> first | (simp [isOrd] at q; done) | skip
    · exact PyProof.Rows.eq_int ⟨_, rfl, rfl, q.2⟩
    · exact PyProof.Rows.ne_int ⟨_, rfl, rfl, q.2⟩
    · exact PyProof.Rows.lt_int ⟨_, rfl, rfl, q.2⟩
    · exact PyProof.Rows.le_int ⟨_, rfl, rfl, q.2⟩
    · exact PyProof.Rows.gt_int ⟨_, rfl, rfl, q.2⟩
    · exact PyProof.Rows.ge_int ⟨_, rfl, rfl, q.2⟩
  · cases op <;> first | (simp [isOrd] at q; done) | skip
    · exact AutoFloatOps.eq_0 ⟨_, rfl, rfl, q.2⟩
    · exact AutoFloatOps.ne_0 ⟨_, rfl, rfl, q.2⟩
    · exact AutoFloatOps.lt_0 ⟨_, rfl, rfl, q.2⟩
    · exact AutoFloatOps.le_0 ⟨_, rfl, rfl, q.2⟩
    · exact AutoFloatOps.gt_0 ⟨_, rfl, rfl, q.2⟩
    · exact AutoFloatOps.ge_0 ⟨_, rfl, rfl, q.2⟩

end
end Mine
namespace Mine
open PySem PySem.W PySem.Calls PyProof.Rows PyProof.V PySem.Spec

structure CxOK (C : Cx) : Prop where
  hh : C.A.handled = none
  htop : ∀ b o, C.fa.top.get? b = some o → C.base.get? b = some o
  units : C.A.units + 64 < cLine
  kind : C.env.scope.kind = .function
  nodup : C.K.names.Nodup
  locs : ∀ x ∈ C.K.names, C.env.kindOf x = some .local ∧ (x == ("__debug__" : Str)) = false
  globs : ∀ (j : Nat) (x : Str) (v : AV), C.K.globs[j]? = some x → C.gval j = some v → ∀ (pos : Pos) (s : Shared) (m : Str → Option Value) (ad : List Addr) (news : Led) (Q : Value → Shared → Prop),
    Fr C.base C.env.locals s.heap m → (∀ cv, RV C.base C.fa ad news v cv → Q cv s) → Wp C (eval (.Name x pos) C.env) Q s
  call : ∀ (k : Nat) (args : List AV) (cargs : List Value) (σ : St) (Q : AV → St → Prop) (s : Shared) (m : Str → Option Value) (ad : List Addr) (news : Led),
    Rel C σ s.heap m ad news → RVs C.base C.fa ad news args cargs → C.fns k args σ.objs (fun v objs => Q v { σ with objs := objs }) → Wp C (call (.ref (C.fa.addr k)) cargs) (PostV C Q s ad news) s

section
variable {base : Heap} {fa : FA} {ad : List Addr} {news : Led}
theorem RVs.length : ∀ {l : List AV} {c : List Value}, RVs base fa ad news l c → l.length = c.length
  | _, _, .nil => rfl
  | _, _, .cons _ _ _ _ _ hs => by simp [hs.length]
theorem RVs.append : ∀ {l : List AV} {c : List Value} {l' : List AV} {c' : List Value}, RVs base fa ad news l c → RVs base fa ad news l' c' → RVs base fa ad news (l ++ l') (c ++ c')
  | _, _, _, _, .nil, k => k
  | _, _, _, _, .cons v vs c cs h hs, k => .cons _ _ _ _ h (hs.append k)
theorem RVs.drop : ∀ {l : List AV} {c : List Value} (n : Nat), RVs base fa ad news l c → RVs base fa ad news (l.drop n) (c.drop n)
  | _, _, 0, h => by simpa using h
  | _, _, n + 1, .nil => by simpa using RVs.nil
  | _, _, n + 1, .cons v vs c cs h hs => by simpa using hs.drop n
theorem RVs.take : ∀ {l : List AV} {c : List Value} (n : Nat), RVs base fa ad news l c → RVs base fa ad news (l.take n) (c.take n)
  | _, _, 0, h => by simpa using RVs.nil
  | _, _, n + 1, .nil => by simpa using RVs.nil
  | _, _, n + 1, .cons v vs c cs h hs => by simpa using RVs.cons _ _ _ _ h (hs.take n)
theorem RVs.pick {l : List AV} {c : List Value} (lo hi : Option Int) (h : RVs base fa ad news l c) : RVs base fa ad news (pick l lo hi) (kms_pick c lo hi) := by
  unfold Mine.pick kms_pick
  rw [← h.length]
  exact (h.drop _).take _
theorem RVs.get : ∀ {l : List AV} {c : List Value} (i : Nat) (v : AV), RVs base fa ad news l c → l[i]? = some v → ∃ cv, c[i]? = some cv ∧ RV base fa ad news v cv
  | _, _, _, _, .nil, h => by simp at h
  | _, _, 0, v, .cons v' vs c cs h hs, e => by
    simp only [List.getElem?_cons_zero, Option.some.injEq] at e
    subst e
    exact ⟨c, rfl, h⟩
  | _, _, i + 1, v, .cons v' vs c cs h hs, e => by
    simp only [List.getElem?_cons_succ] at e ⊢
    exact hs.get i v e
theorem RVs.ints : ∀ {l : List AV} {c : List Value} {ns : List Int}, RVs base fa ad news l c → intsOf l = some ns → IntsAre c ns
  | _, _, _, .nil, e => by cases e; exact .nil
  | _, _, ns, .cons v vs c cs h hs, e => by
    cases h <;> first | (simp [intsOf] at e; done) | skip
    rename_i i t
    simp only [intsOf, Option.map_eq_some_iff] at e
    obtain ⟨r, hr, rfl⟩ := e
    exact .cons _ _ (hs.ints hr)
end

section
variable {C : Cx} {σ : St} {s : Shared} {m : Str → Option Value} {ad : List Addr} {news : Led}

theorem Rel.lt (R : Rel C σ s.heap m ad news) {i : Nat} {a : Addr} (h : ad[i]? = some a) : a < s.heap.objs.size := by
  have hi : i < σ.objs.length := by
    have := (List.getElem?_eq_some_iff.mp h).1
    rw [R.len] at this
    exact this
  obtain ⟨a', items, n, ha, hd, _⟩ := R.obj i _ (List.getElem?_eq_getElem hi)
  rw [h] at ha
  cases ha
  exact Heap.lt_size (hd.1.get R)

/-- the state with another heap that bears the same ledger -/
theorem Rel.heap (R : Rel C σ s.heap m ad news) {h' : Heap} (F : Fr C.base C.env.locals h' m) (N : News C.base C.env.locals h' news) : Rel C σ h' m ad news :=
  ⟨F, N, R.loc, R.len, R.obj, R.own, R.inj⟩
/-- .. one object more, that is no list of the plain state's -/
theorem Rel.more (R : Rel C σ s.heap m ad news) {h' : Heap} {p : Addr × Obj} (F : Fr C.base C.env.locals h' m) (N : News C.base C.env.locals h' (p :: news)) : Rel C σ h' m ad (p :: news) where
  F := F
  N := N
  loc := fun n v h => by
    obtain ⟨x, cv, h1, h2, h3⟩ := R.loc n v h
    exact ⟨x, cv, h1, h2, h3.le Le.cons⟩
  len := R.len
  obj := fun i l h => by
    obtain ⟨a, items, n, h1, h2, h3⟩ := R.obj i l h
    exact ⟨a, items, n, h1, ⟨h2.1.elim (fun x => .inl (.tail _ x)) .inr, h2.2⟩, h3.le Le.cons⟩
  own := fun i h => by
    obtain ⟨a, o, ha, ho⟩ := R.own i h
    exact ⟨a, o, ha, .tail _ ho⟩
  inj := R.inj
/-- .. a list more -/
theorem Rel.alloc (R : Rel C σ s.heap m ad news) {h' : Heap} {D : Addr} {n : Nat} {l : List AV} {items : List Value} (F : Fr C.base C.env.locals h' m) (N : News C.base C.env.locals h' ((D, lstObj items n) :: news))
    (hD : s.heap.objs.size ≤ D) (hl : RVs C.base C.fa ad news l items) : Rel C (σ.alloc l) h' m (ad ++ [D]) ((D, lstObj items n) :: news) where
  F := F
  N := N
  loc := fun n v h => by
    obtain ⟨x, cv, h1, h2, h3⟩ := R.loc n v h
    exact ⟨x, cv, h1, h2, h3.le Le.snoc⟩
  len := by simp [St.alloc, R.len]
  obj := fun i k h => by
    by_cases hi : i < σ.objs.length
    · have h' : σ.objs[i]? = some k := by
        simp only [St.alloc] at h
        rw [List.getElem?_append_left hi] at h
        exact h
      obtain ⟨a, its, o, h1, h2, h3⟩ := R.obj i k h'
      exact ⟨a, its, o, Le.snoc (p := (D, lstObj items n)) (news := news) |>.pre i a h1, ⟨h2.1.elim (fun x => .inl (.tail _ x)) .inr, h2.2⟩, h3.le Le.snoc⟩
    · have hi2 : i = σ.objs.length := by
        have := (List.getElem?_eq_some_iff.mp h).1
        simp only [St.alloc, List.length_append, List.length_cons, List.length_nil] at this
        omega
      subst hi2
      simp only [St.alloc, List.getElem?_concat_length, Option.some.injEq] at h
      subst h
      refine ⟨D, items, _, ?_, ⟨.inl (.head _), rfl, n, rfl⟩, hl.le Le.snoc⟩
      rw [← R.len, List.getElem?_concat_length]
  own := fun i h => by
    rcases List.mem_cons.mp h with e | hm
    · subst e
      exact ⟨D, _, by rw [← R.len, List.getElem?_concat_length], .head _⟩
    · obtain ⟨a, o, ha, ho⟩ := R.own i hm
      exact ⟨a, o, Le.snoc (p := (D, lstObj items n)) (news := news) |>.pre i a ha, .tail _ ho⟩
  inj := fun i j a hi hj => by
    have key : ∀ i : Nat, (ad ++ [D])[i]? = some a → (i < ad.length ∧ ad[i]? = some a) ∨ (i = ad.length ∧ a = D) := by
      intro i hi
      by_cases h : i < ad.length
      · rw [List.getElem?_append_left h] at hi
        exact .inl ⟨h, hi⟩
      · have hi2 : i = ad.length := by
          have := (List.getElem?_eq_some_iff.mp hi).1
          simp only [List.length_append, List.length_cons, List.length_nil] at this
          omega
        subst hi2
        simp only [List.getElem?_concat_length, Option.some.injEq] at hi
        exact .inr ⟨rfl, hi.symm⟩
    rcases key i hi with ⟨h1, h2⟩ | ⟨h1, h2⟩ <;> rcases key j hj with ⟨h3, h4⟩ | ⟨h3, h4⟩
    · exact R.inj i j a h2 h4
    · subst h4; exact absurd (R.lt h2) (Nat.not_lt.mpr hD)
    · subst h2; exact absurd (R.lt h4) (Nat.not_lt.mpr hD)
    · omega

theorem isList {i : Nat} {a : Addr} {l : List AV} (R : Rel C σ s.heap m ad news) (h : σ.objs[i]? = some l) (ha : ad[i]? = some a) : ∃ items : List Value, s.heap.IsList a items.toArray ∧ RVs C.base C.fa ad news l items := by
  obtain ⟨a', items, n, h1, h2, h3⟩ := R.obj i l h
  rw [ha] at h1
  cases h1
  exact ⟨items, ⟨_, h2.1.get R, h2.2⟩, h3⟩

theorem binL_sound {op : Operator} {a b : AV} {ca cb : Value} {Q : AV → St → Prop} (R : Rel C σ s.heap m ad news) (ra : RV C.base C.fa ad news a ca) (rb : RV C.base C.fa ad news b cb) (ok : CxOK C)
    (q : binL op a b σ Q) : Wp C (binaryOp op ca cb) (PostV C Q s ad news) s := by
  unfold binL at q
  split at q
  · obtain ⟨l, k, h1, h2, hz, q⟩ := q
    cases ra with | lst _ x hx => cases rb with | lst _ y hy =>
    obtain ⟨i1, L1, r1⟩ := isList R h1 hx
    obtain ⟨i2, L2, r2⟩ := isList R h2 hy
    refine add_lists R.F R.N L1 L2 (fun h' F' N' => ?_) (by rw [← r1.length, ← r2.length]; exact hz)
    refine ⟨_, _, m, ad ++ [s.heap.objs.size], _, q, .lst _ _ ?_, R.alloc F' N' (Nat.le_refl _) (r1.append r2), Le.snoc, Rest.heap⟩
    rw [← R.len, List.getElem?_concat_length]
  · exact bin_sound R ra rb ok.hh q

theorem cmpL_sound {op : CmpOp} {a b : AV} {ca cb : Value} {Q : Bool → Prop} (R : Rel C σ s.heap m ad news) (ra : RV C.base C.fa ad news a ca) (rb : RV C.base C.fa ad news b cb) (ok : CxOK C)
    (q : cmpL op a b σ Q) : Wp C (compareOp op ca cb) (fun cv s' => ∃ c, cv = .bool c ∧ s' = s ∧ Q c) s := by
  unfold cmpL at q
  split at q
  · obtain ⟨l, k, ns, ms, ⟨h1, h2⟩, ⟨n1, n2⟩, q⟩ := q
    cases ra with | lst _ x hx => cases rb with | lst _ y hy =>
    obtain ⟨i1, L1, r1⟩ := isList R h1 hx
    obtain ⟨i2, L2, r2⟩ := isList R h2 hy
    rcases q with ⟨rfl, q⟩ | ⟨rfl, q⟩
    · exact ke_eq_ints L1 L2 (r1.ints n1) (r2.ints n2) ok.units ⟨_, rfl, rfl, q⟩
    · exact ke_ne_ints L1 L2 (r1.ints n1) (r2.ints n2) ok.units ⟨_, rfl, rfl, q⟩
  · exact cmp_sound R ra rb ok.hh q

theorem truth_sound {v : AV} {cv : Value} {b : Bool} (R : Rel C σ s.heap m ad news) (rv : RV C.base C.fa ad news v cv) (q : truth σ v = some b) : Wp C (truthy cv) (fun c s' => (∃ tk, s' = { s with toks := tk }) ∧ c = b) s := by
  unfold truth at q
  split at q
  · cases q; cases rv; exact wpAny_truthy_bool ⟨⟨_, rfl⟩, rfl⟩
  · cases q; cases rv; exact PySem.P.truthy_int ⟨⟨_, rfl⟩, rfl⟩
  · rename_i i
    cases rv with | lst _ x hx =>
    cases hl : σ.objs[i]? with
    | none => rw [hl] at q; cases q
    | some l =>
      rw [hl] at q
      simp only [Option.bind_some] at q
      split at q
      · rename_i hz
        cases q
        obtain ⟨items, L1, r1⟩ := isList R hl hx
        have hz' := r1.length
        refine wpAny_truthy_list L1 (by simp only [List.size_toArray]; omega) ⟨⟨_, rfl⟩, ?_⟩
        cases l <;> cases items <;> simp_all
      · cases q
  · cases q

theorem sub_plain {i' : Expr} {o i : Value} (h : (match i' with | .Slice .. => false | _ => true) = true) : subscripted i' false o i = operate [o, i] (getItem o i) := by
  cases i' <;> first | rfl | cases h

theorem sub_sound {value slice : Expr} {o i : AV} {co ci : Value} {Q : AV → St → Prop} (R : Rel C σ s.heap m ad news) (ro : RV C.base C.fa ad news o co) (ri : RV C.base C.fa ad news i ci)
    (hp : (match slice with | .Slice .. => false | _ => true) = true) (q : subW o i σ Q) : Wp C (subscriptTail value slice co ci) (PostV C Q s ad news) s := by
  unfold subW at q
  split at q
  · obtain ⟨l, v, hl, hk, hv, q⟩ := q
    cases ro with | lst _ x hx =>
    cases ri
    obtain ⟨items, L1, r1⟩ := isList R hl hx
    obtain ⟨cv, hcv, rv⟩ := r1.get _ _ hv
    exact tail_any L1.typeIs slot_list_getitem.lookup (wpAny_getItem_list L1 hk.1 hk.2 (by simpa using hcv) (PostV.same R q rv)) (sub_plain hp)
  · exact q.elim

theorem slice_sound {value lower upper : Option Expr} {e : Expr} {p : Pos} {o : AV} {co vl vu : Value} {lo hi : Option Int} {Q : AV → St → Prop} (R : Rel C σ s.heap m ad news) (ro : RV C.base C.fa ad news o co)
    (pl : IsPart vl lo) (pu : IsPart vu hi) (q : sliceW o lo hi σ Q) :
    Wp C (subscriptTail e (.Slice lower upper none p) co (.ref s.heap.objs.size)) (PostV C Q s ad news) { s with heap := s.heap.push { cls := .type "slice", data := .fields #[vl, vu, .none] } } := by
  unfold sliceW at q
  split at q
  · obtain ⟨l, hl, hz, q⟩ := q
    cases ro with | lst _ x hx =>
    obtain ⟨items, L1, r1⟩ := isList R hl hx
    refine tail_any (Heap.IsList.typeIs (s := { s with heap := s.heap.push { cls := .type "slice", data := .fields #[vl, vu, .none] } }) (L1.push _)) slot_list_getitem.lookup
      (wpAny_getItem_list_slice (L1.push _) (Heap.IsSliceOf.new ..) pl pu .none (by simp) ?_ (by rw [List.size_toArray, ← r1.length]; exact hz)) rfl
    have N1 := News.push (R.F.push { cls := .type "slice", data := .fields #[vl, vu, .none] }) (R.N.grown fun _ _ e => Heap.get?_push_of_some _ e) { cls := .type "list", data := .seq (slicePick items.toArray lo hi none) }
    have F1 := (R.F.push { cls := .type "slice", data := .fields #[vl, vu, .none] }).push { cls := .type "list", data := .seq (slicePick items.toArray lo hi none) }
    rw [Heap.size_push] at N1
    show PostV C Q s ad news (.ref (s.heap.push _).objs.size) _
    rw [Heap.size_push]
    rw [kms_pick_eq] at *
    refine ⟨_, _, m, ad ++ [s.heap.objs.size + 1], _, q, .lst _ _ ?_, R.alloc F1 N1 (Nat.le_succ _) (r1.pick lo hi), Le.snoc, Rest.heap⟩
    rw [← R.len, List.getElem?_concat_length]
  · exact q.elim

theorem call_sound {f : AV} {cf : Value} {args : List AV} {cargs : List Value} {Q : AV → St → Prop} (R : Rel C σ s.heap m ad news) (rf : RV C.base C.fa ad news f cf) (ra : RVs C.base C.fa ad news args cargs) (ok : CxOK C)
    (q : callW C.fns f args σ Q) : Wp C (call cf cargs) (PostV C Q s ad news) s := by
  unfold callW at q
  split at q
  · cases rf
    exact ok.call _ _ _ _ _ _ _ _ _ R ra q
  · obtain ⟨l, hl, hz, q⟩ := q
    cases rf
    cases ra with | cons _ _ _ _ r rs => cases rs; cases r with | lst _ x hx =>
    obtain ⟨items, L1, r1⟩ := isList R hl hx
    have hz' := r1.length
    refine PyProof.Rows.len_list L1 (by simp only [List.size_toArray]; omega) ?_
    rw [List.size_toArray, ← r1.length]
    exact PostV.here R q (.int _ _)
  · cases rf
    cases ra with | cons _ _ _ _ r rs =>
    cases rs; cases r
    exact call_abs_int fun u tk => PostV.here R q (.int _ _)
  · cases rf
    cases ra with | cons _ _ _ _ r rs => cases rs with | cons _ _ _ _ r2 rs =>
    cases rs; cases r; cases r2
    exact min_two_N ok.hh R.F R.N fun h' tk F' N' => ⟨_, _, m, ad, news, q, .int _ _, R.heap F' N', Le.refl, Rest.mk'⟩
  · cases rf
    cases ra with | cons _ _ _ _ r rs => cases rs with | cons _ _ _ _ r2 rs =>
    cases rs; cases r; cases r2
    exact max_two_N ok.hh R.F R.N fun h' tk F' N' => ⟨_, _, m, ad, news, q, .int _ _, R.heap F' N', Le.refl, Rest.mk'⟩
  · cases rf
    cases ra with | cons _ _ _ _ r rs =>
    cases rs; cases r
    exact call_range_1 ⟨_, _, m, ad, _, q, .rng _ _ _ _ _ _ _ (.inl (.head _)), R.more (R.F.push _) (News.push R.F R.N _), Le.cons, Rest.mk'⟩
  · cases rf
    cases ra with | cons _ _ _ _ r rs => cases rs with | cons _ _ _ _ r2 rs => cases rs with | cons _ _ _ _ r3 rs =>
    cases rs; cases r; cases r2; cases r3
    exact call_range_3 q.1.1 ⟨_, _, m, ad, _, q.2, .rng _ _ _ _ _ _ _ (.inl (.head _)), R.more (R.F.push _) (News.push R.F R.N _), Le.cons, Rest.mk'⟩ (.inl (PyProof.noPylong_of_log2 q.1.2))
  · exact q.elim
end
end Mine
namespace Mine
open PySem PySem.W PySem.Calls PyProof.Rows PyProof.V PySem.Spec

def SoundE (C : Cx) (p : PE) (e : Expr) : Prop := ∀ (σ : St) (Q : AV → St → Prop) (s : Shared) (m : Str → Option Value) (ad : List Addr) (news : Led),
  wpE C.gval C.fns p σ Q → Rel C σ s.heap m ad news → Wp C (eval e C.env) (PostV C Q s ad news) s
def PostT (C : Cx) (Q : AV → St → Prop) (s : Shared) (ad : List Addr) (news : Led) (b : Bool) (s' : Shared) : Prop :=
  ∃ v σ' m' ad' news', truth σ' v = some b ∧ Q v σ' ∧ Rel C σ' s'.heap m' ad' news' ∧ Le ad news ad' news' ∧ Rest s s'
def SoundT (C : Cx) (p : PE) (e : Expr) : Prop := ∀ (σ : St) (Q : AV → St → Prop) (s : Shared) (m : Str → Option Value) (ad : List Addr) (news : Led),
  wpE C.gval C.fns p σ Q → (∀ v σ', Q v σ' → ∃ b, truth σ' v = some b) → Rel C σ s.heap m ad news → Wp C (isTrue e C.env (eval e C.env)) (PostT C Q s ad news) s
def SoundEs (C : Cx) (p : PEs) (es : List Expr) : Prop := ∀ (σ : St) (Q : List AV → St → Prop) (s : Shared) (m : Str → Option Value) (ad : List Addr) (news : Led) (pos : Pos),
  wpEs C.gval C.fns p σ Q → Rel C σ s.heap m ad news → Wp C (spliced (backTo pos (starEach es C.env))) (PostVs C Q s ad news) s
/-- the rest of an and | or, as a value and as a test -/
def SoundBr (C : Cx) (isAnd : Bool) (p : PEs) (es : List Expr) : Prop := ∀ (e : Expr) (p₀ : PE) (pos : Pos) (σ : St) (Q : AV → St → Prop) (s : Shared) (m : Str → Option Value) (ad : List Addr) (news : Led), SoundE C p₀ e → SoundT C p₀ e →
  wpE C.gval C.fns p₀ σ (fun v σ₁ => wpBr C.gval C.fns isAnd p v σ₁ Q) → Rel C σ s.heap m ad news →
    Wp C (eval (.BoolOp (if isAnd then .And else .Or) (e :: es) pos) C.env) (PostV C Q s ad news) s ∧
    ((∀ v σ', Q v σ' → ∃ b, truth σ' v = some b) → ∀ whole, Wp C (isTrue (.BoolOp (if isAnd then .And else .Or) (e :: es) pos) C.env whole) (PostT C Q s ad news) s)

section
variable {C : Cx} {σ : St} {s : Shared} {m : Str → Option Value} {ad : List Addr} {news : Led}
theorem PostT.up {Q : AV → St → Prop} {s₀ s : Shared} {ad₀ ad : List Addr} {news₀ news : Led} (k : Le ad₀ news₀ ad news) (r : Rest s₀ s) {cv : Bool} {s' : Shared} (h : PostT C Q s ad news cv s') : PostT C Q s₀ ad₀ news₀ cv s' := by
  obtain ⟨v, σ', m', ad', news', t, q, R, l, r'⟩ := h
  exact ⟨v, σ', m', ad', news', t, q, R, k.trans l, r.trans r'⟩

/-- a test by its value -/
theorem testOf {p : PE} {e : Expr} (h : SoundE C p e) (he : ∀ whole, isTrue e C.env whole = (do let v ← whole; standAt e.pos; holding [v] (truthy v))) : SoundT C p e := by
  intro σ Q s m ad news q hq R
  refine isTrue_plain (wpAny_mono (h σ Q s m ad news q R) (fun cv s₁ hp => ?_) fun _ _ x => x) (he _)
  obtain ⟨v, σ', m', ad', news', q', rv, R', l, r⟩ := hp
  obtain ⟨b, hb⟩ := hq v σ' q'
  refine wpAny_mono (truth_sound R' rv hb) (fun c s₂ hc => ?_) fun _ _ x => x
  obtain ⟨⟨tk, rfl⟩, rfl⟩ := hc
  exact ⟨v, σ', m', ad', news', hb, q', R', l, r.trans Rest.toks⟩

theorem brNil (ok : CxOK C) (isAnd : Bool) : SoundBr C isAnd .nil [] := by
  intro e p₀ pos σ Q s m ad news hE hT q R
  refine ⟨BoolOp_one (hE _ _ _ _ _ _ q R), fun hq whole => ?_⟩
  have h := hT _ _ _ _ _ _ q hq R
  cases isAnd
  · refine isTrue_or (wpAny_mono h (fun c s₁ hp => ?_) fun _ _ x => x)
    cases c
    · exact isTrue_or_nil hp
    · exact hp
  · refine isTrue_and (wpAny_mono h (fun c s₁ hp => ?_) fun _ _ x => x)
    cases c
    · exact hp
    · exact isTrue_and_nil hp

theorem brCons (ok : CxOK C) (isAnd : Bool) {p : PE} {e : Expr} {ps : PEs} {es : List Expr} (h1 : SoundE C p e) (h2 : SoundT C p e) (h3 : SoundBr C isAnd ps es) : SoundBr C isAnd (.cons p ps) (e :: es) := by
  intro e₀ p₀ pos σ Q s m ad news hE hT q R
  have step : ∀ (v : AV) (σ' : St) (b : Bool) (s' : Shared) m' ad' news', truth σ' v = some b → wpBr C.gval C.fns isAnd (.cons p ps) v σ' Q → Rel C σ' s'.heap m' ad' news' →
      (b = isAnd → wpE C.gval C.fns p σ' fun u σ₁ => wpBr C.gval C.fns isAnd ps u σ₁ Q) ∧ (b = !isAnd → Q v σ') := by
    intro v σ' b s' m' ad' news' hb hw R'
    obtain ⟨b', hb', hw⟩ := truthW_iff.mp hw
    rw [hb] at hb'
    cases hb'
    exact hw
  constructor
  · have hv := hE _ _ _ _ _ _ q R
    have key : ∀ (cv : Value) (s₁ : Shared), PostV C (fun v σ₁ => wpBr C.gval C.fns isAnd (.cons p ps) v σ₁ Q) s ad news cv s₁ →
        Wp C (truthy cv) (fun c s₂ => (c = isAnd → Wp C (eval (.BoolOp (if isAnd then .And else .Or) (e :: es) pos) C.env) (PostV C Q s ad news) s₂) ∧ (c = !isAnd → PostV C Q s ad news cv s₂)) s₁ := by
      intro cv s₁ hp
      obtain ⟨v, σ', m', ad', news', q', rv, R', l, r⟩ := hp
      obtain ⟨b, hb, _⟩ := truthW_iff.mp q'
      have hw := step v σ' b s₁ m' ad' news' hb q' R'
      refine wpAny_mono (truth_sound R' rv hb) (fun c s₂ hc => ?_) fun _ _ x => x
      obtain ⟨⟨tk, rfl⟩, rfl⟩ := hc
      refine ⟨fun hc => ?_, fun hc => ?_⟩
      · refine wpAny_mono ((h3 e p pos σ' Q { s₁ with toks := tk } m' ad' news' h1 h2 (hw.1 hc) R').1) (fun _ _ x => ?_) fun _ _ x => x
        exact PostV.up l (r.trans Rest.toks) x
      · exact ⟨v, σ', m', ad', news', hw.2 hc, rv, R', l, r.trans Rest.toks⟩
    cases isAnd
    · refine BoolOp_or (wpAny_mono hv (fun cv s₁ hp => wpAny_mono (key cv s₁ hp) (fun c s₂ hc => ?_) fun _ _ x => x) fun _ _ x => x)
      cases c
      · exact hc.1 rfl
      · exact hc.2 rfl
    · refine BoolOp_and (wpAny_mono hv (fun cv s₁ hp => wpAny_mono (key cv s₁ hp) (fun c s₂ hc => ?_) fun _ _ x => x) fun _ _ x => x)
      cases c
      · exact hc.2 rfl
      · exact hc.1 rfl
  · intro hq whole
    have hv := hT _ _ _ _ _ _ q (fun v σ' hw => by obtain ⟨b, hb, _⟩ := truthW_iff.mp hw; exact ⟨b, hb⟩) R
    have key : ∀ (c : Bool) (s₁ : Shared), PostT C (fun v σ₁ => wpBr C.gval C.fns isAnd (.cons p ps) v σ₁ Q) s ad news c s₁ →
        (c = isAnd → Wp C (isTrue (.BoolOp (if isAnd then .And else .Or) (e :: es) pos) C.env whole) (PostT C Q s ad news) s₁) ∧ (c = !isAnd → PostT C Q s ad news c s₁) := by
      intro c s₁ hp
      obtain ⟨v, σ', m', ad', news', hb, q', R', l, r⟩ := hp
      have hw := step v σ' c s₁ m' ad' news' hb q' R'
      refine ⟨fun hc => ?_, fun hc => ?_⟩
      · refine wpAny_mono ((h3 e p pos σ' Q s₁ m' ad' news' h1 h2 (hw.1 hc) R').2 hq whole) (fun _ _ x => ?_) fun _ _ x => x
        exact PostT.up l r x
      · exact ⟨v, σ', m', ad', news', hb, hw.2 hc, R', l, r⟩
    cases isAnd
    · refine isTrue_or (wpAny_mono hv (fun c s₁ hp => ?_) fun _ _ x => x)
      cases c
      · exact (key _ _ hp).1 rfl
      · exact (key _ _ hp).2 rfl
    · refine isTrue_and (wpAny_mono hv (fun c s₁ hp => ?_) fun _ _ x => x)
      cases c
      · exact (key _ _ hp).2 rfl
      · exact (key _ _ hp).1 rfl
end
end Mine
namespace Mine
open PySem PySem.W PySem.Calls PyProof.Rows PyProof.V PySem.Spec

section
variable {C : Cx}
theorem SoundE.seq {p : PE} {e : Expr} (hs : SoundE C p e) {σ : St} {Q : AV → St → Prop} {s : Shared} {m : Str → Option Value} {ad : List Addr} {news : Led} {P : Value → Shared → Prop}
    (q : wpE C.gval C.fns p σ Q) (R : Rel C σ s.heap m ad news)
    (h : ∀ cv s₁ v σ₁ m₁ ad₁ news₁, Q v σ₁ → RV C.base C.fa ad₁ news₁ v cv → Rel C σ₁ s₁.heap m₁ ad₁ news₁ → Le ad news ad₁ news₁ → Rest s s₁ → P cv s₁) :
    Wp C (eval e C.env) P s :=
  wpAny_mono (hs σ Q s m ad news q R) (fun cv s₁ hp => by
    obtain ⟨v, σ₁, m₁, ad₁, news₁, q₁, rv, R₁, l, r⟩ := hp
    exact h cv s₁ v σ₁ m₁ ad₁ news₁ q₁ rv R₁ l r) fun _ _ x => x
theorem SoundEs.seq {p : PEs} {es : List Expr} (hs : SoundEs C p es) {σ : St} {Q : List AV → St → Prop} {s : Shared} {m : Str → Option Value} {ad : List Addr} {news : Led} {pos : Pos} {P : List Value → Shared → Prop}
    (q : wpEs C.gval C.fns p σ Q) (R : Rel C σ s.heap m ad news)
    (h : ∀ cv s₁ v σ₁ m₁ ad₁ news₁, Q v σ₁ → RVs C.base C.fa ad₁ news₁ v cv → Rel C σ₁ s₁.heap m₁ ad₁ news₁ → Le ad news ad₁ news₁ → Rest s s₁ → P cv s₁) :
    Wp C (spliced (backTo pos (starEach es C.env))) P s :=
  wpAny_mono (hs σ Q s m ad news pos q R) (fun cv s₁ hp => by
    obtain ⟨v, σ₁, m₁, ad₁, news₁, q₁, rv, R₁, l, r⟩ := hp
    exact h cv s₁ v σ₁ m₁ ad₁ news₁ q₁ rv R₁ l r) fun _ _ x => x
theorem SoundT.seq {p : PE} {e : Expr} (hs : SoundT C p e) {σ : St} {Q : AV → St → Prop} {s : Shared} {m : Str → Option Value} {ad : List Addr} {news : Led} {P : Bool → Shared → Prop}
    (q : wpE C.gval C.fns p σ Q) (hq : ∀ v σ', Q v σ' → ∃ b, truth σ' v = some b) (R : Rel C σ s.heap m ad news)
    (h : ∀ b s₁ v σ₁ m₁ ad₁ news₁, truth σ₁ v = some b → Q v σ₁ → Rel C σ₁ s₁.heap m₁ ad₁ news₁ → Le ad news ad₁ news₁ → Rest s s₁ → P b s₁) :
    Wp C (isTrue e C.env (eval e C.env)) P s :=
  wpAny_mono (hs σ Q s m ad news q hq R) (fun cv s₁ hp => by
    obtain ⟨v, σ₁, m₁, ad₁, news₁, t, q₁, R₁, l, r⟩ := hp
    exact h cv s₁ v σ₁ m₁ ad₁ news₁ t q₁ R₁ l r) fun _ _ x => x

theorem postV_up {t : Sem Value} {Q : AV → St → Prop} {s₀ s : Shared} {ad₀ ad : List Addr} {news₀ news : Led} (k : Le ad₀ news₀ ad news) (r : Rest s₀ s) (h : Wp C t (PostV C Q s ad news) s) : Wp C t (PostV C Q s₀ ad₀ news₀) s :=
  wpAny_mono h (fun _ _ x => x.up k r) fun _ _ x => x

theorem sConst {v : AV} {c : Const} {k : Nat} {pos : Pos} (h : mC v c = true) : SoundE C (.const v) (.Constant c k pos) := by
  intro σ Q s m ad news q R
  have q : Q v σ := q
  unfold mC at h
  split at h
  · exact wpAny_Constant_none (PostV.same R q .none)
  · cases eq_of_beq h; exact wpAny_Constant_bool (PostV.same R q (.bool _))
  · cases eq_of_beq h; exact wpAny_Constant_int (PostV.here R q (.int _ _))
  · cases eq_of_beq h; exact wpAny_Constant_float (PostV.here R q (.float _ _))
  · cases eq_of_beq h; exact wpAny_Constant_str (PostV.here R q (.str _ _))
  · cases h

theorem sLoc (ok : CxOK C) {n : Nat} {x : Str} {pos : Pos} (h : C.K.names[n]? = some x) : SoundE C (.loc n) (.Name x pos) := by
  intro σ Q s m ad news q R
  obtain ⟨v, hv, q⟩ := q
  obtain ⟨x', cv, h1, h2, h3⟩ := R.loc n v hv
  rw [h] at h1
  cases h1
  have hx := ok.locs x (List.mem_of_getElem? h)
  exact wpAny_Name (wpAny_loadName_local ok.kind hx.1 R.F.ns h2 (PostV.same R q h3)) hx.2

theorem sGlob (ok : CxOK C) {n : Nat} {x : Str} {pos : Pos} (h : C.K.globs[n]? = some x) : SoundE C (.glob n) (.Name x pos) := by
  intro σ Q s m ad news q R
  obtain ⟨v, hv, q⟩ := q
  exact ok.globs n x v h hv pos s m ad news _ R.F fun cv rv => PostV.same R q rv

theorem sBin (ok : CxOK C) {op : Operator} {l r : PE} {l' r' : Expr} {pos : Pos} (h1 : SoundE C l l') (h2 : SoundE C r r') : SoundE C (.bin op l r) (.BinOp l' op r' pos) := by
  intro σ Q s m ad news q R
  refine wpAny_BinOp (h1.seq q R fun ca s₁ a σ₁ m₁ ad₁ news₁ q₁ ra R₁ l₁ r₁ => h2.seq q₁ R₁ fun cb s₂ b σ₂ m₂ ad₂ news₂ q₂ rb R₂ l₂ r₂ => ?_)
  exact postV_up (l₁.trans l₂) (r₁.trans r₂) (binL_sound R₂ (ra.le l₂) rb ok q₂)

theorem sNeg (ok : CxOK C) {p : PE} {e : Expr} {pos : Pos} (h1 : SoundE C p e) : SoundE C (.neg p) (.UnaryOp .USub e pos) := by
  intro σ Q s m ad news q R
  refine UnaryOp_ (h1.seq q R fun ca s₁ a σ₁ m₁ ad₁ news₁ q₁ ra R₁ l₁ r₁ => ?_)
  obtain ⟨i, rfl, q₁⟩ := q₁
  cases ra
  exact postV_up l₁ r₁ (PyProof.Rows.neg_int (PostV.here R₁ q₁ (.int _ _)))

theorem sNot (ok : CxOK C) {p : PE} {e : Expr} {pos : Pos} (h1 : SoundE C p e) (h2 : SoundT C p e) : SoundE C (.not p) (.UnaryOp .Not e pos) ∧ SoundT C (.not p) (.UnaryOp .Not e pos) := by
  constructor
  · intro σ Q s m ad news q R
    refine UnaryOp_ (h1.seq q R fun ca s₁ a σ₁ m₁ ad₁ news₁ q₁ ra R₁ l₁ r₁ => ?_)
    obtain ⟨b, hb, q₁⟩ := truthW_iff.mp q₁
    refine not_of (wpAny_mono (truth_sound R₁ ra hb) (fun c s₂ hc => ?_) fun _ _ x => x)
    obtain ⟨⟨tk, rfl⟩, rfl⟩ := hc
    exact (PostV.here R₁ q₁ (.bool _)).up l₁ r₁
  · intro σ Q s m ad news q hq R
    refine isTrue_not (h2.seq q (fun v σ' h => by obtain ⟨b, hb, _⟩ := truthW_iff.mp h; exact ⟨b, hb⟩) R fun b s₁ v σ₁ m₁ ad₁ news₁ ht q₁ R₁ l₁ r₁ => ?_)
    obtain ⟨b', hb, q₁⟩ := truthW_iff.mp q₁
    rw [ht] at hb
    cases hb
    exact ⟨_, σ₁, m₁, ad₁, news₁, rfl, q₁, R₁, l₁, r₁⟩

theorem sCmp (ok : CxOK C) {op : CmpOp} {l r : PE} {l' r' : Expr} {pos : Pos} (hm : behindInMarks op r' = false) (h1 : SoundE C l l') (h2 : SoundE C r r') :
    SoundE C (.cmp op l r) (.Compare l' [op] [r'] pos) ∧ SoundT C (.cmp op l r) (.Compare l' [op] [r'] pos) := by
  constructor
  · intro σ Q s m ad news q R
    refine wpAny_Compare1 (h1.seq q R fun ca s₁ a σ₁ m₁ ad₁ news₁ q₁ ra R₁ l₁ r₁ => h2.seq q₁ R₁ fun cb s₂ b σ₂ m₂ ad₂ news₂ q₂ rb R₂ l₂ r₂ => ?_) hm
    refine wpAny_mono (cmpL_sound R₂ (ra.le l₂) rb ok q₂) (fun cv s₃ h3 => ?_) fun _ _ x => x
    obtain ⟨c, rfl, rfl, q₃⟩ := h3
    exact (PostV.same R₂ q₃ (.bool _)).up (l₁.trans l₂) (r₁.trans r₂)
  · intro σ Q s m ad news q hq R
    refine wpAny_isTrue_Compare1 (h1.seq q R fun ca s₁ a σ₁ m₁ ad₁ news₁ q₁ ra R₁ l₁ r₁ => h2.seq q₁ R₁ fun cb s₂ b σ₂ m₂ ad₂ news₂ q₂ rb R₂ l₂ r₂ => ?_) hm
    refine wpAny_mono (cmpL_sound R₂ (ra.le l₂) rb ok q₂) (fun cv s₃ h3 => ?_) fun _ _ x => x
    obtain ⟨c, rfl, rfl, q₃⟩ := h3
    exact wpAny_truthy_bool ⟨_, σ₂, m₂, ad₂, news₂, rfl, q₃, R₂, l₁.trans l₂, r₁.trans r₂⟩

theorem sCmp2 (ok : CxOK C) {o₁ o₂ : CmpOp} {a b c : PE} {a' b' c' : Expr} {pos : Pos} (hm : lastMarks [o₁, o₂] [b', c'] = false) (h1 : SoundE C a a') (h2 : SoundE C b b') (h3 : SoundE C c c') :
    SoundE C (.cmp2 o₁ o₂ a b c) (.Compare a' [o₁, o₂] [b', c'] pos) ∧ SoundT C (.cmp2 o₁ o₂ a b c) (.Compare a' [o₁, o₂] [b', c'] pos) := by
  constructor
  · intro σ Q s m ad news q R
    refine Compare_chain (h1.seq q R fun ca s₁ x σ₁ m₁ ad₁ news₁ q₁ ra R₁ l₁ r₁ => chain_link (h2.seq q₁ R₁ fun cb s₂ y σ₂ m₂ ad₂ news₂ q₂ rb R₂ l₂ r₂ => ?_)) hm
    refine wpAny_mono (cmpL_sound R₂ (ra.le l₂) rb ok q₂) (fun cv s₃ h4 => ?_) fun _ _ x => x
    obtain ⟨t, rfl, rfl, q₃⟩ := h4
    refine wpAny_truthy_bool ?_
    cases t
    · exact (PostV.same R₂ (q₃.2 rfl) (.bool _)).up (l₁.trans l₂) (r₁.trans r₂)
    · refine chain_last (h3.seq (q₃.1 rfl) R₂ fun cc s₄ z σ₄ m₄ ad₄ news₄ q₄ rc R₄ l₄ r₄ => ?_)
      refine wpAny_mono (cmpL_sound R₄ (rb.le l₄) rc ok q₄) (fun cv s₅ h5 => ?_) fun _ _ x => x
      obtain ⟨u, rfl, rfl, q₅⟩ := h5
      exact (PostV.same R₄ q₅ (.bool _)).up ((l₁.trans l₂).trans l₄) ((r₁.trans r₂).trans r₄)
  · intro σ Q s m ad news q hq R
    refine isTrue_chain (h1.seq q R fun ca s₁ x σ₁ m₁ ad₁ news₁ q₁ ra R₁ l₁ r₁ => test_link (h2.seq q₁ R₁ fun cb s₂ y σ₂ m₂ ad₂ news₂ q₂ rb R₂ l₂ r₂ => ?_)) hm
    refine wpAny_mono (cmpL_sound R₂ (ra.le l₂) rb ok q₂) (fun cv s₃ h4 => ?_) fun _ _ x => x
    obtain ⟨t, rfl, rfl, q₃⟩ := h4
    refine wpAny_truthy_bool ?_
    cases t
    · exact ⟨_, σ₂, m₂, ad₂, news₂, rfl, q₃.2 rfl, R₂, l₁.trans l₂, r₁.trans r₂⟩
    · refine test_last (h3.seq (q₃.1 rfl) R₂ fun cc s₄ z σ₄ m₄ ad₄ news₄ q₄ rc R₄ l₄ r₄ => ?_)
      refine wpAny_mono (cmpL_sound R₄ (rb.le l₄) rc ok q₄) (fun cv s₅ h5 => ?_) fun _ _ x => x
      obtain ⟨u, rfl, rfl, q₅⟩ := h5
      exact wpAny_truthy_bool ⟨_, σ₄, m₄, ad₄, news₄, rfl, q₅, R₄, (l₁.trans l₂).trans l₄, (r₁.trans r₂).trans r₄⟩

theorem sIte (ok : CxOK C) {c a b : PE} {c' a' b' : Expr} {pos : Pos} (h1 : SoundT C c c') (h2 : SoundE C a a') (h3 : SoundE C b b') (h4 : SoundT C a a') (h5 : SoundT C b b') :
    SoundE C (.ite c a b) (.IfExp c' a' b' pos) ∧ SoundT C (.ite c a b) (.IfExp c' a' b' pos) := by
  have side : ∀ {Q : AV → St → Prop} (v : AV) (σ' : St), (truthW v σ' fun t => (t = true → wpE C.gval C.fns a σ' Q) ∧ (t = false → wpE C.gval C.fns b σ' Q)) → ∃ b, truth σ' v = some b :=
    fun v σ' h => by obtain ⟨b, hb, _⟩ := truthW_iff.mp h; exact ⟨b, hb⟩
  constructor
  · intro σ Q s m ad news q R
    refine IfExp_ (h1.seq q side R fun t s₁ v σ₁ m₁ ad₁ news₁ ht q₁ R₁ l₁ r₁ => ?_)
    obtain ⟨t', hb, q₁⟩ := truthW_iff.mp q₁
    rw [ht] at hb
    cases hb
    cases t
    · exact postV_up l₁ r₁ (h3 _ _ _ _ _ _ (q₁.2 rfl) R₁)
    · exact postV_up l₁ r₁ (h2 _ _ _ _ _ _ (q₁.1 rfl) R₁)
  · intro σ Q s m ad news q hq R
    refine isTrue_IfExp (h1.seq q side R fun t s₁ v σ₁ m₁ ad₁ news₁ ht q₁ R₁ l₁ r₁ => ?_)
    obtain ⟨t', hb, q₁⟩ := truthW_iff.mp q₁
    rw [ht] at hb
    cases hb
    cases t
    · exact wpAny_mono (h5 _ _ _ _ _ _ (q₁.2 rfl) hq R₁) (fun _ _ x => x.up l₁ r₁) fun _ _ x => x
    · exact wpAny_mono (h4 _ _ _ _ _ _ (q₁.1 rfl) hq R₁) (fun _ _ x => x.up l₁ r₁) fun _ _ x => x

theorem sTuple (ok : CxOK C) {ps : PEs} {es : List Expr} {k : Nat} {pos : Pos} (h1 : SoundEs C ps es) : SoundE C (.tuple ps) (.Tuple es k pos) := by
  intro σ Q s m ad news q R
  refine Tuple_ (h1.seq q R fun cs s₁ vs σ₁ m₁ ad₁ news₁ q₁ rs R₁ l₁ r₁ => ?_)
  refine newTuple_N R₁.F R₁.N (fun h' F' N' => ?_) (by rw [← rs.length]; exact q₁.1)
  exact ⟨_, σ₁, m₁, ad₁, _, q₁.2, .tup _ cs _ 0 (.inl (.head _)) (rs.le Le.cons), R₁.more F' N', l₁.trans Le.cons, r₁.trans Rest.heap⟩

theorem sList (ok : CxOK C) {ps : PEs} {es : List Expr} {pos : Pos} (h1 : SoundEs C ps es) : SoundE C (.list ps) (.List es pos) := by
  intro σ Q s m ad news q R
  refine List_ (h1.seq q R fun cs s₁ vs σ₁ m₁ ad₁ news₁ q₁ rs R₁ l₁ r₁ => ?_)
  obtain ⟨hz, n, rfl, q₁⟩ := q₁
  refine newList_N R₁.F R₁.N (fun h' F' N' => ?_) (by rw [← rs.length]; exact hz)
  refine ⟨_, _, m₁, ad₁ ++ [s₁.heap.objs.size], _, q₁, .lst _ _ ?_, R₁.alloc F' N' (Nat.le_refl _) rs, l₁.trans Le.snoc, r₁.trans Rest.heap⟩
  rw [← R₁.len, List.getElem?_concat_length]

theorem sSub (ok : CxOK C) {p i : PE} {e i' : Expr} {pos : Pos} (hp : (match i' with | .Slice .. => false | _ => true) = true) (h1 : SoundE C p e) (h2 : SoundE C i i') : SoundE C (.sub p i) (.Subscript e i' pos) := by
  intro σ Q s m ad news q R
  refine Subscript_ (h1.seq q R fun ca s₁ a σ₁ m₁ ad₁ news₁ q₁ ra R₁ l₁ r₁ => h2.seq q₁ R₁ fun cb s₂ b σ₂ m₂ ad₂ news₂ q₂ rb R₂ l₂ r₂ => ?_)
  exact postV_up (l₁.trans l₂) (r₁.trans r₂) (sub_sound R₂ (ra.le l₂) rb hp q₂)

theorem sSlTo (ok : CxOK C) {p hi : PE} {e hi' : Expr} {p₁ pos : Pos} (h1 : SoundE C p e) (h2 : SoundE C hi hi') : SoundE C (.slTo p hi) (.Subscript e (.Slice none (some hi') none p₁) pos) := by
  intro σ Q s m ad news q R
  refine Subscript_ (h1.seq q R fun ca s₁ a σ₁ m₁ ad₁ news₁ q₁ ra R₁ l₁ r₁ => wpAny_Slice (evalPart_none_step (evalPart_some_step (h2.seq q₁ R₁ fun cb s₂ b σ₂ m₂ ad₂ news₂ q₂ rb R₂ l₂ r₂ => evalPart_none_step ?_))))
  obtain ⟨k, rfl, q₂⟩ := q₂
  cases rb
  exact wpAny_mono (slice_sound (value := none) R₂ (ra.le l₂) .none (.int _ _) q₂) (fun _ _ x => x.up (l₁.trans l₂) (r₁.trans r₂)) fun _ _ x => x
theorem sSlFrom (ok : CxOK C) {p lo : PE} {e lo' : Expr} {p₁ pos : Pos} (h1 : SoundE C p e) (h2 : SoundE C lo lo') : SoundE C (.slFrom p lo) (.Subscript e (.Slice (some lo') none none p₁) pos) := by
  intro σ Q s m ad news q R
  refine Subscript_ (h1.seq q R fun ca s₁ a σ₁ m₁ ad₁ news₁ q₁ ra R₁ l₁ r₁ => wpAny_Slice (evalPart_some_step (h2.seq q₁ R₁ fun cb s₂ b σ₂ m₂ ad₂ news₂ q₂ rb R₂ l₂ r₂ => evalPart_none_step (evalPart_none_step ?_))))
  obtain ⟨k, rfl, q₂⟩ := q₂
  cases rb
  exact wpAny_mono (slice_sound (value := none) R₂ (ra.le l₂) (.int _ _) .none q₂) (fun _ _ x => x.up (l₁.trans l₂) (r₁.trans r₂)) fun _ _ x => x
theorem sSlAll (ok : CxOK C) {p lo hi : PE} {e lo' hi' : Expr} {p₁ pos : Pos} (h1 : SoundE C p e) (h2 : SoundE C lo lo') (h3 : SoundE C hi hi') : SoundE C (.slAll p lo hi) (.Subscript e (.Slice (some lo') (some hi') none p₁) pos) := by
  intro σ Q s m ad news q R
  refine Subscript_ (h1.seq q R fun ca s₁ a σ₁ m₁ ad₁ news₁ q₁ ra R₁ l₁ r₁ => wpAny_Slice (evalPart_some_step (h2.seq q₁ R₁ fun cb s₂ b σ₂ m₂ ad₂ news₂ q₂ rb R₂ l₂ r₂ =>
    evalPart_some_step (h3.seq q₂ R₂ fun cc s₃ c σ₃ m₃ ad₃ news₃ q₃ rc R₃ l₃ r₃ => evalPart_none_step ?_))))
  obtain ⟨k, j, rfl, rfl, q₃⟩ := q₃
  cases rb
  cases rc
  exact wpAny_mono (slice_sound (value := none) R₃ (ra.le (l₂.trans l₃)) (.int _ _) (.int _ _) q₃) (fun _ _ x => x.up ((l₁.trans l₂).trans l₃) ((r₁.trans r₂).trans r₃)) fun _ _ x => x

theorem sEsNil (ok : CxOK C) : SoundEs C .nil [] := by
  intro σ Q s m ad news pos q R
  exact spliced_none ⟨[], σ, m, ad, news, q, .nil, R, Le.refl, Rest.refl⟩
theorem sEsCons (ok : CxOK C) {p : PE} {e : Expr} {ps : PEs} {es : List Expr} (hn : (match e with | .Starred .. => false | _ => true) = true) (h1 : SoundE C p e) (h2 : SoundEs C ps es) : SoundEs C (.cons p ps) (e :: es) := by
  intro σ Q s m ad news pos q R
  have he : starEach (e :: es) C.env = (false, eval e C.env) :: starEach es C.env := by cases e <;> first | rfl | cases hn
  refine spliced_more (h1.seq q R fun ca s₁ a σ₁ m₁ ad₁ news₁ q₁ ra R₁ l₁ r₁ => h2.seq q₁ R₁ fun cs s₂ vs σ₂ m₂ ad₂ news₂ q₂ rs R₂ l₂ r₂ => ?_) he
  exact ⟨_, σ₂, m₂, ad₂, news₂, q₂, .cons _ _ _ _ (ra.le l₂) rs, R₂, l₁.trans l₂, r₁.trans r₂⟩

theorem plain_any (env : Env) (pos : Pos) : ∀ {ps : PEs} {es : List Expr} (K : Keys), mEs K ps es = true → (backTo pos (starEach es env)).any (·.1) = false
  | .nil, [], _, _ => rfl
  | .nil, _ :: _, _, h => by simp [mEs] at h
  | .cons _ _, [], _, h => by simp [mEs] at h
  | .cons p ps, e :: es, K, h => by
    simp only [mEs, Bool.and_eq_true] at h
    have he : starEach (e :: es) env = (false, eval e env) :: starEach es env := by cases e <;> first | rfl | cases h.1
    rw [he]
    show (false || (backTo pos (starEach es env)).any (·.1)) = false
    rw [plain_any env pos K h.2.2]
    rfl

theorem sCall (ok : CxOK C) {f : PE} {ps : PEs} {x : Str} {np pos : Pos} {e : Expr} {es : List Expr} (h1 : SoundE C f (.Name x np)) (h2 : SoundEs C ps (e :: es)) (hm : mEs C.K ps (e :: es) = true) : SoundE C (.call f ps) (.Call (.Name x np) (e :: es) [] pos) := by
  intro σ Q s m ad news q R
  refine Call_ (h1.seq q R fun cf s₁ fv σ₁ m₁ ad₁ news₁ q₁ rf R₁ l₁ r₁ => ?_)
  obtain ⟨hc, q₁⟩ := q₁
  have he : starEach (e :: es) C.env = (false, eval e C.env) :: starEach es C.env ∧ (backTo pos (starEach es C.env)).any (·.1) = false := by
    cases ps with
    | nil => simp [mEs] at hm
    | cons p ps =>
      simp only [mEs, Bool.and_eq_true] at hm
      refine ⟨?_, plain_any C.env pos C.K hm.2.2⟩
      cases e <;> first | rfl | cases hm.1
  have args : Wp C (spliced (backTo pos (starEach (e :: es) C.env))) (fun vs s₂ => (∀ b o, C.base.get? b = some o → s₂.heap.get? b = some o) ∧ Wp C (call cf vs) (PostV C Q s ad news) s₂) s₁ :=
    h2.seq q₁ R₁ fun cs s₂ vs σ₂ m₂ ad₂ news₂ q₂ rs R₂ l₂ r₂ => ⟨R₂.F.keep, postV_up (l₁.trans l₂) (r₁.trans r₂) (call_sound R₂ (rf.le l₂) rs ok q₂)⟩
  cases rf with
  | bi b => exact PyProof.Rows.callWith_builtin1 (wpAny_mono args (fun _ _ x => x.2) fun _ _ x => x) he.1 he.2
  | typ t => exact PyProof.Rows.callWith_type1 (wpAny_mono args (fun _ _ x => x.2) fun _ _ x => x) he.1 he.2
  | fn k o fd ho hd => exact callWith_def hd (wpAny_mono args (fun _ _ x => ⟨x.1 _ _ (ok.htop _ _ ho), x.2⟩) fun _ _ x => x) he.1
  | _ => cases hc

/-! ## the induction -/
mutual
theorem sound (ok : CxOK C) : ∀ (p : PE) (e : Expr), mE C.K p e = true → SoundE C p e ∧ SoundT C p e
  | .const v, e, h => by
    cases e <;> first | (cases h; done) | skip
    rename_i c k pos
    have hE : SoundE C (.const v) (.Constant c k pos) := sConst h
    exact ⟨hE, testOf hE fun _ => rfl⟩
  | .loc n, e, h => by
    cases e <;> first | (cases h; done) | skip
    rename_i x pos
    have hE : SoundE C (.loc n) (.Name x pos) := sLoc ok (eq_of_beq h)
    exact ⟨hE, testOf hE fun _ => rfl⟩
  | .glob n, e, h => by
    cases e <;> first | (cases h; done) | skip
    rename_i x pos
    have hE : SoundE C (.glob n) (.Name x pos) := sGlob ok (eq_of_beq h)
    exact ⟨hE, testOf hE fun _ => rfl⟩
  | .bin op l r, e, h => by
    cases e <;> first | (cases h; done) | skip
    simp only [mE, Bool.and_eq_true, beq_iff_eq] at h
    obtain ⟨rfl, h1, h2⟩ := h
    have hE := sBin ok (pos := by assumption) (op := op) (sound ok l _ h1).1 (sound ok r _ h2).1
    exact ⟨hE, testOf hE fun _ => rfl⟩
  | .neg p, e, h => by
    cases e <;> first | (cases h; done) | skip
    rename_i uop e' pos
    cases uop <;> first | (cases h; done) | skip
    simp only [mE] at h
    have hE := sNeg ok (pos := pos) (sound ok p _ h).1
    exact ⟨hE, testOf hE fun _ => rfl⟩
  | .not p, e, h => by
    cases e <;> first | (cases h; done) | skip
    rename_i uop e' pos
    cases uop <;> first | (cases h; done) | skip
    simp only [mE] at h
    exact sNot ok (sound ok p _ h).1 (sound ok p _ h).2
  | .cmp op l r, e, h => by
    cases e <;> first | (cases h; done) | skip
    rename_i l' ops cs pos
    match ops, cs, h with
    | [op'], [r'], h =>
      simp only [mE, Bool.and_eq_true, beq_iff_eq] at h
      obtain ⟨rfl, hm, h1, h2⟩ := h
      exact sCmp ok hm (sound ok l _ h1).1 (sound ok r _ h2).1
    | [], _, h => cases h
    | [_], [], h => cases h
    | [_], _ :: _ :: _, h => cases h
    | _ :: _ :: _, _, h => cases h
  | .cmp2 o₁ o₂ a b c, e, h => by
    cases e <;> first | (cases h; done) | skip
    rename_i l' ops cs pos
    match ops, cs, h with
    | [o₁', o₂'], [b', c'], h =>
      simp only [mE, Bool.and_eq_true, beq_iff_eq] at h
      obtain ⟨⟨rfl, rfl⟩, hm, h1, h2, h3⟩ := h
      exact sCmp2 ok hm (sound ok a _ h1).1 (sound ok b _ h2).1 (sound ok c _ h3).1
    | [], _, h => cases h
    | [_], _, h => cases h
    | [_, _], [], h => cases h
    | [_, _], [_], h => cases h
    | [_, _], _ :: _ :: _ :: _, h => cases h
    | _ :: _ :: _ :: _, _, h => cases h
  | .bools isAnd es, e, h => by
    cases e <;> first | (cases isAnd <;> cases h; done) | skip
    rename_i bop es' pos
    have key : bop = (if isAnd then .And else .Or) ∧ mEs C.K es es' = true := by
      cases isAnd <;> cases bop <;> first | exact ⟨rfl, h⟩ | cases h
    obtain ⟨rfl, hm⟩ := key
    match es, es', hm with
    | .nil, [], _ => exact ⟨fun σ Q s m ad news q => q.elim, fun σ Q s m ad news q => q.elim⟩
    | .nil, _ :: _, hm => cases hm
    | .cons _ _, [], hm => cases hm
    | .cons p ps, e₁ :: es₁, hm =>
      simp only [mEs, Bool.and_eq_true] at hm
      have h1 := sound ok p e₁ hm.2.1
      have h2 := soundBr ok isAnd ps es₁ hm.2.2
      exact ⟨fun σ Q s m ad news q R => (h2 e₁ p pos σ Q s m ad news h1.1 h1.2 q R).1, fun σ Q s m ad news q hq R => (h2 e₁ p pos σ Q s m ad news h1.1 h1.2 q R).2 hq _⟩
  | .ite c a b, e, h => by
    cases e <;> first | (cases h; done) | skip
    simp only [mE, Bool.and_eq_true] at h
    exact sIte ok (sound ok c _ h.1).2 (sound ok a _ h.2.1).1 (sound ok b _ h.2.2).1 (sound ok a _ h.2.1).2 (sound ok b _ h.2.2).2
  | .call f ps, e, h => by
    cases e <;> first | (cases h; done) | skip
    rename_i f' es kws pos
    cases es with
    | nil => cases f' <;> cases kws <;> cases h
    | cons e₁ es =>
      cases kws with
      | cons _ _ => cases f' <;> cases h
      | nil =>
        cases f' <;> first | (cases h; done) | skip
        simp only [mE, Bool.and_eq_true] at h
        have hE := sCall ok (pos := pos) (sound ok f _ h.1).1 (sounds ok ps _ h.2) h.2
        exact ⟨hE, testOf hE fun _ => rfl⟩
  | .starcall _ _, e, h => by cases e <;> cases h
  | .sub p i, e, h => by
    cases e <;> first | (cases h; done) | skip
    simp only [mE, Bool.and_eq_true] at h
    have hE := sSub ok (pos := by assumption) h.1 (sound ok p _ h.2.1).1 (sound ok i _ h.2.2).1
    exact ⟨hE, testOf hE fun _ => rfl⟩
  | .slTo p hi, e, h => by
    cases e <;> first | (cases h; done) | skip
    rename_i e' sl pos
    cases sl <;> first | (cases h; done) | skip
    rename_i lo' hi' st' p₁
    cases lo' <;> cases hi' <;> cases st' <;> first | (cases h; done) | skip
    simp only [mE, Bool.and_eq_true] at h
    have hE := sSlTo ok (p₁ := p₁) (pos := pos) (sound ok p _ h.1).1 (sound ok hi _ h.2).1
    exact ⟨hE, testOf hE fun _ => rfl⟩
  | .slFrom p lo, e, h => by
    cases e <;> first | (cases h; done) | skip
    rename_i e' sl pos
    cases sl <;> first | (cases h; done) | skip
    rename_i lo' hi' st' p₁
    cases lo' <;> cases hi' <;> cases st' <;> first | (cases h; done) | skip
    simp only [mE, Bool.and_eq_true] at h
    have hE := sSlFrom ok (p₁ := p₁) (pos := pos) (sound ok p _ h.1).1 (sound ok lo _ h.2).1
    exact ⟨hE, testOf hE fun _ => rfl⟩
  | .slAll p lo hi, e, h => by
    cases e <;> first | (cases h; done) | skip
    rename_i e' sl pos
    cases sl <;> first | (cases h; done) | skip
    rename_i lo' hi' st' p₁
    cases lo' <;> cases hi' <;> cases st' <;> first | (cases h; done) | skip
    simp only [mE, Bool.and_eq_true] at h
    have hE := sSlAll ok (p₁ := p₁) (pos := pos) (sound ok p _ h.1).1 (sound ok lo _ h.2.1).1 (sound ok hi _ h.2.2).1
    exact ⟨hE, testOf hE fun _ => rfl⟩
  | .tuple es, e, h => by
    cases e <;> first | (cases h; done) | skip
    simp only [mE] at h
    have hE := sTuple ok (k := by assumption) (pos := by assumption) (sounds ok es _ h)
    exact ⟨hE, testOf hE fun _ => rfl⟩
  | .list es, e, h => by
    cases e <;> first | (cases h; done) | skip
    simp only [mE] at h
    have hE := sList ok (pos := by assumption) (sounds ok es _ h)
    exact ⟨hE, testOf hE fun _ => rfl⟩
  | .comp _ _ _ _, e, h => by cases e <;> cases h
theorem sounds (ok : CxOK C) : ∀ (ps : PEs) (es : List Expr), mEs C.K ps es = true → SoundEs C ps es
  | .nil, [], _ => sEsNil ok
  | .nil, _ :: _, h => by cases h
  | .cons _ _, [], h => by cases h
  | .cons p ps, e :: es, h => by
    simp only [mEs, Bool.and_eq_true] at h
    exact sEsCons ok h.1 (sound ok p e h.2.1).1 (sounds ok ps es h.2.2)
theorem soundBr (ok : CxOK C) (isAnd : Bool) : ∀ (ps : PEs) (es : List Expr), mEs C.K ps es = true → SoundBr C isAnd ps es
  | .nil, [], _ => brNil ok isAnd
  | .nil, _ :: _, h => by cases h
  | .cons _ _, [], h => by cases h
  | .cons p ps, e :: es, h => by
    simp only [mEs, Bool.and_eq_true] at h
    exact brCons ok isAnd (sound ok p e h.2.1).1 (sound ok p e h.2.1).2 (soundBr ok isAnd ps es h.2.2)
end
end
end Mine
namespace Mine
open PySem PySem.W PySem.Calls PyProof.Rows PyProof.V PySem.Spec

theorem nodup_inj {α : Type} {l : List α} (nd : l.Nodup) {i j : Nat} {x : α} (hi : l[i]? = some x) (hj : l[j]? = some x) : i = j := by
  have e1 := List.getElem?_eq_some_iff.mp hi
  have e2 := List.getElem?_eq_some_iff.mp hj
  have key := List.pairwise_iff_getElem.mp nd
  rcases Nat.lt_trichotomy i j with h | h | h
  · exact absurd (e1.2.trans e2.2.symm) (key i j e1.1 e2.1 h)
  · exact h
  · exact absurd (e2.2.trans e1.2.symm) (key j i e2.1 e1.1 h)

/-- the heapless part of the relation -/
structure RelM (C : Cx) (σ : St) (m : Str → Option Value) (ad : List Addr) (news : Led) : Prop where
  loc : ∀ n v, σ.loc n = some v → ∃ x cv, C.K.names[n]? = some x ∧ m x = some cv ∧ RV C.base C.fa ad news v cv
  len : ad.length = σ.objs.length
  obj : ∀ (i : Nat) (l : List AV), σ.objs[i]? = some l → ∃ (a : Addr) (items : List Value) (o : Obj), ad[i]? = some a ∧ (Held C.base news a o ∧ IsL o items) ∧ RVs C.base C.fa ad news l items
  own : ∀ (i : Nat), i ∈ σ.own → ∃ (a : Addr) (o : Obj), ad[i]? = some a ∧ good o ∧ (a, o) ∈ news
  inj : ∀ (i j : Nat) (a : Addr), ad[i]? = some a → ad[j]? = some a → i = j

section
variable {C : Cx} {σ : St} {h : Heap} {m : Str → Option Value} {ad : List Addr} {news news' : Led}
theorem Rel.toM (R : Rel C σ h m ad news) : RelM C σ m ad news := by
  refine ⟨R.loc, R.len, R.obj, fun i hi => ?_, R.inj⟩
  obtain ⟨a, o, ha, ho⟩ := R.own i hi
  have hl : i < σ.objs.length := by
    have := (List.getElem?_eq_some_iff.mp ha).1
    rw [R.len] at this
    exact this
  obtain ⟨a', items, n, ha', hd, _⟩ := R.obj i _ (List.getElem?_eq_getElem hl)
  rw [ha] at ha'
  cases ha'
  have h1 := hd.1.get R
  have h2 := (R.N _ ho).1
  rw [h1] at h2
  cases h2
  exact ⟨a, _, ha, .inr (.inl hd.2.1), ho⟩
theorem RelM.toRel (R : RelM C σ m ad news) (F : Fr C.base C.env.locals h m) (N : News C.base C.env.locals h news) : Rel C σ h m ad news :=
  ⟨F, N, R.loc, R.len, R.obj, fun i hi => let ⟨a, o, ha, _, ho⟩ := R.own i hi; ⟨a, o, ha, ho⟩, R.inj⟩
theorem RelM.sub (R : RelM C σ m ad news) (k : ∀ a o, (a, o) ∈ news → good o → (a, o) ∈ news') : RelM C σ m ad news' where
  loc := fun n v h => by
    obtain ⟨x, cv, h1, h2, h3⟩ := R.loc n v h
    exact ⟨x, cv, h1, h2, h3.leT ⟨fun _ _ h => h, k⟩⟩
  len := R.len
  obj := fun i l h => by
    obtain ⟨a, items, n, h1, h2, h3⟩ := R.obj i l h
    exact ⟨a, items, n, h1, ⟨h2.1.elim (fun x => .inl (k _ _ x (.inr (.inl h2.2.1)))) .inr, h2.2⟩, h3.leT ⟨fun _ _ h => h, k⟩⟩
  own := fun i h => by
    obtain ⟨a, o, ha, g, ho⟩ := R.own i h
    exact ⟨a, o, ha, g, k _ _ ho g⟩
  inj := R.inj
/-- a name is stored -/
theorem RelM.set (R : RelM C σ m ad news) (nd : C.K.names.Nodup) {n : Nat} {x : Str} {v : AV} {cv : Value} (hx : C.K.names[n]? = some x) (rv : RV C.base C.fa ad news v cv) :
    RelM C (σ.set n v) (fun y => if y = x then some cv else m y) ad news where
  loc := fun k u h => by
    simp only [St.set, upd] at h
    by_cases hk : k = n
    · subst hk
      simp only [if_true, Option.some.injEq] at h
      subst h
      exact ⟨x, cv, hx, by simp, rv⟩
    · simp only [hk, if_false] at h
      obtain ⟨y, cu, h1, h2, h3⟩ := R.loc k u h
      refine ⟨y, cu, h1, ?_, h3⟩
      have hne : y ≠ x := by
        rintro rfl
        exact hk (nodup_inj nd h1 hx)
      simp [hne, h2]
  len := R.len
  obj := R.obj
  own := R.own
  inj := R.inj
end

def flowIs (C : Cx) (ad : List Addr) (news : Led) : Fl → Flow → Prop
  | .next, .next => True
  | .ret v, .ret cv => RV C.base C.fa ad news v cv
  | _, _ => False
def PostS (C : Cx) (Q : Fl → St → Prop) (s : Shared) (ad : List Addr) (news : Led) (f : Flow) (s' : Shared) : Prop :=
  ∃ fl σ' m' ad' news', Q fl σ' ∧ flowIs C ad' news' fl f ∧ Rel C σ' s'.heap m' ad' news' ∧ Le ad news ad' news' ∧ Rest s s'
theorem PostS.up {C : Cx} {Q : Fl → St → Prop} {s₀ s : Shared} {ad₀ ad : List Addr} {news₀ news : Led} (k : Le ad₀ news₀ ad news) (r : Rest s₀ s) {f : Flow} {s' : Shared} (h : PostS C Q s ad news f s') : PostS C Q s₀ ad₀ news₀ f s' := by
  obtain ⟨v, σ', m', ad', news', q, rv, R, l, r'⟩ := h
  exact ⟨v, σ', m', ad', news', q, rv, R, k.trans l, r.trans r'⟩

def SoundS (C : Cx) (p : PS) (st : Stmt) : Prop := ∀ (σ : St) (Q : Fl → St → Prop) (s : Shared) (m : Str → Option Value) (ad : List Addr) (news : Led),
  wpS C.gval C.fns p σ Q → Rel C σ s.heap m ad news → Wp C (exec st C.env) (PostS C Q s ad news) s
def SoundSs (C : Cx) (p : PSs) (st : List Stmt) : Prop := ∀ (σ : St) (Q : Fl → St → Prop) (s : Shared) (m : Str → Option Value) (ad : List Addr) (news : Led),
  wpSs C.gval C.fns p σ Q → Rel C σ s.heap m ad news → Wp C (execs st C.env) (PostS C Q s ad news) s

section
variable {C : Cx}

theorem store_sound (ok : CxOK C) {σ : St} {s : Shared} {m : Str → Option Value} {ad : List Addr} {news : Led} {n : Nat} {x : Str} {v : AV} {cv : Value} {P : Unit → Shared → Prop} (hx : C.K.names[n]? = some x)
    (R : Rel C σ s.heap m ad news) (rv : RV C.base C.fa ad news v cv) (h : ∀ h', Rel C (σ.set n v) h' (fun y => if y = x then some cv else m y) ad news → P () { s with heap := h', toks := s.toks + 1 }) :
    Wp C (storeName C.env x cv) P s := by
  have hl := (ok.locs x (List.mem_of_getElem? hx)).1
  refine wpAny_storeName_local hl R.F.ns (fun h' hn hs => h h' ?_) (by rw [ok.kind]; rfl)
  exact (R.toM.set ok.nodup hx rv).toRel (R.F.set hn hs) (R.N.set hs)

theorem sAssign (ok : CxOK C) {n : Nat} {x : Str} {p : PE} {e : Expr} {p₁ pos : Pos} (hx : C.K.names[n]? = some x) (hc : (match e with | .ListComp .. | .SetComp .. | .DictComp .. => false | _ => true) = true) (h1 : SoundE C p e) :
    SoundS C (.assign (.name n) p) (.Assign [.Name x p₁] e pos) := by
  intro σ Q s m ad news q R
  have hs : swapsWith e (some (.Name x p₁)) pos.line C.env = pure false := by cases e <;> first | rfl | cases hc
  refine wpAny_Assign_Name (h1.seq q R fun cv s₁ v σ₁ m₁ ad₁ news₁ q₁ rv R₁ l₁ r₁ => store_sound ok hx R₁ rv fun h' R' => ?_) hs
  exact ⟨.next, _, _, ad₁, news₁, q₁, trivial, R', l₁, r₁.trans Rest.mk'⟩

theorem sRet (ok : CxOK C) {p : PE} {e : Expr} {pos : Pos} (h1 : SoundE C p e) : SoundS C (.ret p) (.Return (some e) pos) := by
  intro σ Q s m ad news q R
  refine wpAny_Return_some (h1.seq q R fun cv s₁ v σ₁ m₁ ad₁ news₁ q₁ rv R₁ l₁ r₁ => ?_)
  exact ⟨.ret v, σ₁, m₁, ad₁, news₁, q₁, rv, R₁, l₁, r₁⟩

theorem sIf (ok : CxOK C) {c : PE} {a b : PSs} {c' : Expr} {a' b' : List Stmt} {pos : Pos} (h1 : SoundT C c c') (h2 : SoundSs C a a') (h3 : SoundSs C b b') : SoundS C (.ifs c a b) (.If c' a' b' pos) := by
  intro σ Q s m ad news q R
  refine wpAny_If (h1.seq q (fun v σ' h => by obtain ⟨b, hb, _⟩ := truthW_iff.mp h; exact ⟨b, hb⟩) R fun t s₁ v σ₁ m₁ ad₁ news₁ ht q₁ R₁ l₁ r₁ => ?_)
  obtain ⟨t', hb, q₁⟩ := truthW_iff.mp q₁
  rw [ht] at hb
  cases hb
  cases t
  · exact wpAny_mono (h3 _ _ _ _ _ _ (q₁.2 rfl) R₁) (fun _ _ x => x.up l₁ r₁) fun _ _ x => x
  · exact wpAny_mono (h2 _ _ _ _ _ _ (q₁.1 rfl) R₁) (fun _ _ x => x.up l₁ r₁) fun _ _ x => x

/-- the loop, once its iterator stands -/
theorem loop_sound (ok : CxOK C) {n : Nat} {x : Str} {ps : PSs} {body : List Stmt} (hx : C.K.names[n]? = some x) (hb : SoundSs C ps body)
    {I : Addr} {fp : List Addr} {N : Nat} {P : Nat → Value → Prop} {St : Nat → Heap → Prop} {σ : Mine.St} {s : Shared} {m : Str → Option Value} {ad : List Addr} {news : Led} {Q : Fl → Mine.St → Prop} {it : Nat → AV}
    (W : Walks C.prog C.w C.A I fp [I] N P St) (hLf : C.env.locals ∉ fp) (hI : C.base.get? I = none) (hnw : ∀ p ∈ news, p.1 ≠ I) (hIfp : I ∈ fp) (hst : St 0 s.heap)
    (hstI : ∀ i h, St i h → ∃ o, h.get? I = some o ∧ ¬ good o)
    (hP : ∀ i v ad' news', P i v → i < N → Le ad news ad' news' → RV C.base C.fa ad' news' (it i) v)
    (R : Rel C σ s.heap m ad news)
    (q : ∃ J : Nat → Mine.St → Prop, J 0 σ ∧ (∀ i σ₂, i < N → J i σ₂ → wpSs C.gval C.fns ps (σ₂.set n (it i)) fun fl σ₃ => match fl with | .next => J (i + 1) σ₃ | .ret v => Q (.ret v) σ₃) ∧ (∀ σ₂, J N σ₂ → Q .next σ₂)) :
    LoopAtV C.prog C.w C.A C.base C.env x body (PostS C Q s ad news) NoE (.ref I) s := by
  obtain ⟨J, j0, jt, jd⟩ := q
  refine ⟨I, fp, [I], N, P, St, m, news, fun i m' news' => ∃ σ' ad', J i σ' ∧ RelM C σ' m' ad' news' ∧ Le ad news ad' news', rfl, W, hLf, fun b hb => (List.mem_singleton.mp hb) ▸ hI, fun p hp hI' => hnw p hp (List.mem_singleton.mp hI'), hst, R.F, R.N,
    ⟨σ, ad, j0, R.toM, Le.refl⟩, ?_, ?_⟩
  · rintro i v m₁ news₁ s₁ own ⟨hh', tk', rfl⟩ hi hPv ⟨σ', ad', hj, M, l⟩ hoff hown hget hall hst' F₁ N₁
    have lk : Le ad' news₁ ad' (own ++ news₁) := ⟨fun _ _ h => h, fun _ _ h => List.mem_append_right _ h⟩
    have rv := hP i v ad' (own ++ news₁) hPv hi (l.trans lk)
    have R₁ : Rel C (σ'.set n (it i)) hh' (fun y => if y = x then some v else m₁ y) ad' (own ++ news₁) :=
      ((M.sub (fun a o h _ => List.mem_append_right _ h)).set ok.nodup hx rv).toRel F₁ N₁
    refine wpAny_mono (hb _ _ { s with heap := hh', toks := tk' } _ _ _ (jt i σ' hi hj) R₁) (fun f s₂ hp => ?_) fun _ _ x => x
    obtain ⟨fl, σ₂, m₂, ad₂, news₂, q₂, hf, R₂, l₂, r₂⟩ := hp
    cases fl with
    | ret u =>
      cases f with
      | ret cv => exact ⟨.ret u, σ₂, m₂, ad₂, news₂, q₂, hf, R₂, (l.trans lk).trans l₂, (Rest.mk').trans r₂⟩
      | _ => cases hf
    | next =>
      cases f with
      | next =>
        obtain ⟨o, ho, hng⟩ := hstI _ _ hst'
        have hmem : (I, o) ∈ news₂ := l₂.keep _ _ (List.mem_append_left _ (hall I hIfp hI o ho))
        obtain ⟨⟨h₂, tk₂, rfl⟩⟩ := r₂
        refine LoopStepU.intro (news₂ := news₂.filter fun p => p.1 != I) R₂.F (fun p hp => ?_) (fun p hp hI' => ?_) ⟨σ₂, ad₂, q₂, R₂.toM.sub fun a o' hm hg => ?_, ?_⟩
        · rcases List.mem_append.mp hp with hp | hp
          · exact R₂.N p (l₂.keep _ _ (List.mem_append_left _ hp))
          · exact R₂.N p (List.mem_filter.mp hp).1
        · have := (List.mem_filter.mp hp).2
          simp only [bne_iff_ne, ne_eq] at this
          exact this (List.mem_singleton.mp hI')
        · refine List.mem_filter.mpr ⟨hm, ?_⟩
          simp only [bne_iff_ne, ne_eq]
          rintro rfl
          have e1 := (R₂.N _ hm).1
          have e2 := (R₂.N _ hmem).1
          rw [e1] at e2
          cases e2
          exact hng hg
        · refine ⟨fun i a h => l₂.pre i a (l.pre i a h), fun a o' hm => List.mem_filter.mpr ⟨l₂.keep _ _ (List.mem_append_right _ (l.keep _ _ hm)), ?_⟩⟩
          simp only [bne_iff_ne, ne_eq]
          exact hnw _ hm
      | _ => cases hf
  · rintro h' tk m' news' F' N' hoff ⟨σ', ad', hj, M, l⟩
    exact ⟨.next, σ', m', ad', news', jd _ hj, trivial, M.toRel F' N', l, Rest.mk'⟩

theorem sFor (ok : CxOK C) {n : Nat} {x : Str} {p : PE} {e : Expr} {ps : PSs} {body : List Stmt} {p₁ pos : Pos} (hx : C.K.names[n]? = some x) (hset : (match e with | .Set .. => false | _ => true) = true) (h1 : SoundE C p e) (hb : SoundSs C ps body) :
    SoundS C (.for_ (.name n) p ps) (.For (.Name x p₁) e body [] pos) := by
  intro σ Q s m ad news q R
  have hl := (ok.locs x (List.mem_of_getElem? hx)).1
  have hs : ∀ v, foldedSetIterable e C.env v = pure v := by intro v; cases e <;> first | rfl | cases hset
  refine For_invV C.base hl (by rw [ok.kind]; rfl) (h1.seq q R fun cv s₁ v σ₁ m₁ ad₁ news₁ q₁ rv R₁ l₁ r₁ => ?_) hs PassesOwn.never
  have up : ∀ {it s₂}, Rest s₁ s₂ → LoopAtV C.prog C.w C.A C.base C.env x body (PostS C Q s₂ ad₁ news₁) NoE it s₂ → LoopAtV C.prog C.w C.A C.base C.env x body (PostS C Q s ad news) NoE it s₂ := by
    intro it s₂ r₂ h
    obtain ⟨I, fp, wr, N, P, St, m', news', J, e1, W, a1, a2, a3, a4, a5, a6, a7, turn, done⟩ := h
    refine ⟨I, fp, wr, N, P, St, m', news', J, e1, W, a1, a2, a3, a4, a5, a6, a7, fun i v m₁ n₁ s₁ own b1 b2 b3 b4 b5 b6 b7 b8 b9 b10 b11 => ?_, fun h' tk m' n' c1 c2 c3 c4 => (done h' tk m' n' c1 c2 c3 c4).up l₁ (r₁.trans r₂)⟩
    refine wpAny_mono (turn i v m₁ n₁ s₁ own b1 b2 b3 b4 b5 b6 b7 b8 b9 b10 b11) (fun f s₂ hf => ?_) fun _ _ x => x
    cases f with
    | ret u => exact PostS.up l₁ (r₁.trans r₂) hf
    | brk => exact PostS.up l₁ (r₁.trans r₂) hf
    | next => exact hf
    | cont => exact hf
  unfold itemsW at q₁
  split at q₁
  · rename_i a b c
    obtain ⟨⟨hsm, hc⟩, q₁⟩ := q₁
    cases rv with | rng _ _ _ r t u w hd =>
    have hr : IsRange s₁.heap r a b c t u w := hd.get R₁
    refine wpAny_pyIter_range hr hsm (up Rest.mk' ?_)
    have hn : Builtin.Range.rangeSize a b c = ((Builtin.Range.rangeSize a b c).toNat : Int) := by
      have e0 : 0 ≤ Builtin.Range.rangeSize a b c := by
        unfold Builtin.Range.rangeSize
        rw [if_pos hc]
        split
        · have := Int.ediv_nonneg (a := b - a - 1) (b := c) (by omega) (by omega)
          omega
        · omega
      omega
    generalize hN : (Builtin.Range.rangeSize a b c).toNat = N at *
    have W : Walks C.prog C.w C.A s₁.heap.objs.size [s₁.heap.objs.size] [s₁.heap.objs.size] N (fun i v => i < N ∧ ∃ t, v = .int (a + i * c) t)
      (fun i h => IsRangeIter h s₁.heap.objs.size (a + (i : Nat) * c) ((N : Int) - (i : Nat)) c) := (Walks.range ok.hh _ a c N).bound
    have hnew := next_is_new R₁.F
    have off : ∀ p ∈ news₁, p.1 ≠ s₁.heap.objs.size := fun p hp hI => absurd (Heap.lt_size (R₁.N p hp).1) (hI ▸ Nat.lt_irrefl _)
    refine loop_sound ok hx hb W (fun hm => absurd R₁.F.ns.lt ((List.mem_singleton.mp hm) ▸ Nat.lt_irrefl _)) hnew off (.head _)
      (by show IsRangeIter (s₁.heap.push _) _ _ _ _; rw [hn]; simpa using Heap.get?_push_size _ rfl) (fun i h hst => ⟨_, hst, by rintro (h | h | h) <;> simp at h⟩) ?_
      (R₁.heap (R₁.F.push _) (R₁.N.pushKeep _)) q₁
    rintro i v ad' news' ⟨_, t', rfl⟩ hi l
    exact .int _ _
  · obtain ⟨l, hl', q₁⟩ := q₁
    cases rv with | lst _ ax hax =>
    obtain ⟨items, L1, r1⟩ := isList R₁ hl' hax
    refine wpAny_pyIter_list L1 (up Rest.heap ?_)
    obtain ⟨ol, hol, hcl, hseq⟩ := id L1
    have hlt : ax < s₁.heap.objs.size := Heap.lt_size hol
    have hne : ax ≠ s₁.heap.objs.size := Nat.ne_of_lt hlt
    have W := Walks.list (prog := C.prog) (w := C.w) ok.hh s₁.heap.objs.size ax hne items.toArray
    have hsz : items.toArray.size = l.length := by rw [List.size_toArray, r1.length]
    rw [hsz] at W
    have hnew := next_is_new R₁.F
    have off : ∀ p ∈ news₁, p.1 ≠ s₁.heap.objs.size := fun p hp hI => absurd (Heap.lt_size (R₁.N p hp).1) (hI ▸ Nat.lt_irrefl _)
    have hLf : C.env.locals ∉ [s₁.heap.objs.size, ax] := by
      intro hm
      rcases List.mem_cons.mp hm with e | hm
      · exact absurd R₁.F.ns.lt (e ▸ Nat.lt_irrefl _)
      · have e := List.mem_singleton.mp hm
        obtain ⟨oL, es, ep, hL, hd, _⟩ := R₁.F.ns
        rw [e, hol] at hL
        cases hL
        obtain ⟨n', hn'⟩ := hseq
        rw [hn'] at hd
        cases hd
    refine loop_sound ok hx hb W hLf hnew off (.head _) ⟨⟨_, Heap.get?_push_size _ rfl, rfl, rfl⟩, L1.push _⟩ (fun i h hst => ?_) ?_ (R₁.heap (R₁.F.push _) (R₁.N.pushKeep _)) q₁
    · obtain ⟨⟨o, ho, hc, _⟩, _⟩ := hst
      refine ⟨o, ho, ?_⟩
      rintro (h | h | h) <;> rw [hc] at h <;> exact absurd h (by decide)
    · intro i v ad' news' hv hi lk
      have hget : l[i]? = some (l.getD i .none) := by simp [List.getD, hi]
      obtain ⟨cv, hcv, rv⟩ := r1.get i _ hget
      have : v = cv := by
        have h2 : items[i]? = some v := by simpa using hv
        rw [hcv] at h2
        exact (Option.some.inj h2).symm
      subst this
      exact rv.le lk
  · exact q₁.elim
theorem sCons (ok : CxOK C) {p : PS} {st : Stmt} {ps : PSs} {sts : List Stmt} (h1 : SoundS C p st) (h2 : SoundSs C ps sts) : SoundSs C (.cons p ps) (st :: sts) := by
  intro σ Q s m ad news q R
  refine wpAny_execs_cons (wpAny_mono (h1 σ _ s m ad news q R) (fun f s₁ hp => ?_) fun _ _ x => x)
  obtain ⟨fl, σ₁, m₁, ad₁, news₁, q₁, hf, R₁, l₁, r₁⟩ := hp
  cases fl with
  | next =>
    cases f with
    | next => exact wpAny_mono (h2 _ _ _ _ _ _ q₁ R₁) (fun _ _ x => x.up l₁ r₁) fun _ _ x => x
    | _ => cases hf
  | ret v =>
    cases f with
    | ret cv => exact ⟨.ret v, σ₁, m₁, ad₁, news₁, q₁, hf, R₁, l₁, r₁⟩
    | _ => cases hf

mutual
theorem soundS (ok : CxOK C) : ∀ (p : PS) (st : Stmt), mS C.K p st = true → SoundS C p st
  | .assign (.name n) e, st, h => by
    cases st <;> first | (cases h; done) | skip
    rename_i ts e' pos
    cases ts with
    | nil => cases h
    | cons t ts =>
      cases ts with
      | cons _ _ => cases t <;> cases h
      | nil =>
        cases t <;> first | (cases h; done) | skip
        simp only [mS, Bool.and_eq_true, beq_iff_eq] at h
        exact sAssign ok h.1 h.2.1 (sound ok e _ h.2.2).1
  | .assign (.tup _) _, st, h => by cases st <;> cases h
  | .aug _ _ _, st, h => by cases st <;> cases h
  | .ifs c a b, st, h => by
    cases st <;> first | (cases h; done) | skip
    simp only [mS, Bool.and_eq_true] at h
    exact sIf ok (sound ok c _ h.1).2 (soundSs ok a _ h.2.1) (soundSs ok b _ h.2.2)
  | .for_ (.name n) it body, st, h => by
    cases st <;> first | (cases h; done) | skip
    rename_i t it' body' els pos
    cases t <;> first | (cases els <;> cases h; done) | skip
    cases els with
    | cons _ _ => cases h
    | nil =>
      simp only [mS, Bool.and_eq_true, beq_iff_eq] at h
      exact sFor ok h.1 h.2.1 (sound ok it _ h.2.2.1).1 (soundSs ok body _ h.2.2.2)
  | .for_ (.tup _) _ _, st, h => by cases st <;> cases h
  | .ret e, st, h => by
    cases st <;> first | (cases h; done) | skip
    rename_i v pos
    cases v with
    | none => cases h
    | some e' =>
      simp only [mS] at h
      exact sRet ok (sound ok e _ h).1
theorem soundSs (ok : CxOK C) : ∀ (ps : PSs) (sts : List Stmt), mSs C.K ps sts = true → SoundSs C ps sts
  | .nil, [], _ => fun σ Q s m ad news q R => wpAny_execs_nil ⟨.next, σ, m, ad, news, q, trivial, R, Le.refl, Rest.refl⟩
  | .nil, _ :: _, h => by cases h
  | .cons _ _, [], h => by cases h
  | .cons p ps, st :: sts, h => by
    simp only [mSs, Bool.and_eq_true] at h
    exact sCons ok (soundS ok p st h.1) (soundSs ok ps sts h.2)
end
end
end Mine
namespace Mine
open PySem PySem.W PySem.Calls PyProof.Rows PyProof.V PySem.Spec

/-- what the run of the top has left: the names of the module and the built-ins -/
structure PF where
  prog : Program
  w : World
  p : Program
  loose : List Str
  mean : ExcName → Option Value
  mg : Str → Option Value
  mb : Str → Option Value

/-- a frame of a def of the text -/
structure FrameOf (P : PF) (C : Cx) (room : Nat) : Prop where
  ex : ∃ (A₀ : Around) (base₀ : Heap) (outer : List Env) (cn : Str) (cs : Scope) (L a : Addr) (ccd : Value), C.env = envOf cn cs L a ccd ∧ C.A = A₀.deeper (envOf cn cs L a ccd) ∧ Below A₀ base₀ outer C.base ∧ cs.kind = .function
  prog : C.prog = P.prog
  w : C.w = P.w
  top : Top P.p P.loose P.mean P.mg P.mb C.base
  depth : C.A.depth + room < recursionLimit
  hh : C.A.handled = none
  units : C.A.units + 3 * room + 64 < cLine
  keep : ∀ b o, C.fa.top.get? b = some o → C.base.get? b = some o

/-- a module's name: what stands under it -/
def GV (fa : FA) : AV → Value → Prop
  | .bi b, .builtin i => i = b.id
  | .typ t, .type n => n = t.name
  | .float x, .float y _ => y = x
  | .fn k, .ref a => a = fa.addr k
  | _, _ => False
structure GOK (P : PF) (fa : FA) (globs : List Str) (gval : Nat → Option AV) : Prop where
  ok : ∀ (j : Nat) (x : Str) (v : AV), globs[j]? = some x → gval j = some v → (x == ("__debug__" : Str)) = false ∧ ∃ cv, GV fa v cv ∧ (P.mg x = some cv ∨ (P.mg x = none ∧ P.mb x = some cv))
  fns : ∀ (j k : Nat), gval j = some (.fn k) → ∃ o fd, fa.top.get? (fa.addr k) = some o ∧ o.data = .func fd

theorem globs_ok {P : PF} {C : Cx} {room : Nat} (Fo : FrameOf P C room) (G : GOK P C.fa C.K.globs C.gval) (hk : ∀ x ∈ C.K.globs, C.env.kindOf x = some .globalImplicit) :
    ∀ (j : Nat) (x : Str) (v : AV), C.K.globs[j]? = some x → C.gval j = some v → ∀ (pos : Pos) (s : Shared) (m : Str → Option Value) (ad : List Addr) (news : Led) (Q : Value → Shared → Prop),
    Fr C.base C.env.locals s.heap m → (∀ cv, RV C.base C.fa ad news v cv → Q cv s) → Wp C (eval (.Name x pos) C.env) Q s := by
  intro j x v hx hv pos s m ad news Q F q
  obtain ⟨A₀, base₀, outer, cn, cs, L, a, ccd, he, hA, hB, hcs⟩ := Fo.ex
  obtain ⟨hd, cv, hg, hm⟩ := G.ok j x v hx hv
  have hxk := hk x (List.mem_of_getElem? hx)
  have rv : RV C.base C.fa ad news v cv := by
    cases v <;> cases cv <;> first | (exact hg.elim) | skip
    · cases hg; exact .float _ _
    · cases hg; exact .typ _
    · cases hg; exact .bi _
    · cases hg
      obtain ⟨o, fd, h1, h2⟩ := G.fns j _ hv
      exact .fn _ o fd h1 h2
  rw [he] at F hxk ⊢
  rcases hm with hm | ⟨h1, h2⟩
  · exact ld_global_at F Fo.top.g hm (q cv rv) hcs hxk hd
  · exact ld_builtin_at F Fo.top.g h1 Fo.top.b h2 (q cv rv) hcs hxk hd

/-- every object of the heap that the base has not -/
def fullLed (base : Heap) (L : Addr) (h : Heap) : Led :=
  (List.range h.objs.size).filterMap fun a => match h.get? a with
    | some o => if a = L ∨ (base.get? a).isSome then none else some (a, o)
    | none => none
theorem mem_full {base h : Heap} {L a : Addr} {o : Obj} (ho : h.get? a = some o) (hL : a ≠ L) (hb : base.get? a = none) : (a, o) ∈ fullLed base L h := by
  refine List.mem_filterMap.mpr ⟨a, List.mem_range.mpr (Heap.lt_size ho), ?_⟩
  rw [ho]
  simp [hL, hb]
theorem full_mem {base h : Heap} {L : Addr} : News base L h (fullLed base L h) := by
  intro p hp
  obtain ⟨a, _, h2⟩ := List.mem_filterMap.mp hp
  cases ho : h.get? a with
  | none => rw [ho] at h2; cases h2
  | some o =>
    rw [ho] at h2
    simp only at h2
    split at h2
    · cases h2
    · rename_i hc
      cases h2
      simp only [not_or, Bool.not_eq_true, Option.isSome_eq_false_iff, Option.isNone_iff_eq_none] at hc
      exact ⟨ho, hc.1, hc.2⟩

theorem Rel.full {C : Cx} {σ : St} {h : Heap} {m : Str → Option Value} {ad : List Addr} {news : Led} (R : Rel C σ h m ad news) : Rel C σ h m ad (fullLed C.base C.env.locals h) :=
  (R.toM.sub fun a o hm _ => mem_full (R.N _ hm).1 (R.N _ hm).2.1 (R.N _ hm).2.2).toRel R.F full_mem
theorem full_le {C : Cx} {σ : St} {h : Heap} {m : Str → Option Value} {ad : List Addr} {news : Led} (R : Rel C σ h m ad news) : Le ad news ad (fullLed C.base C.env.locals h) :=
  ⟨fun _ _ h => h, fun a o hm => mem_full (R.N _ hm).1 (R.N _ hm).2.1 (R.N _ hm).2.2⟩

def shaped (o : Obj) : Prop := (∃ its n, o.data = .seq its n) ∨ (∃ fs, o.data = .fields fs)
mutual
theorem RV.move {base base' : Heap} {fa : FA} {ad ad' : List Addr} {news news' : Led} (hp : ∀ (i : Nat) (a : Addr), ad[i]? = some a → ad'[i]? = some a)
    (hh : ∀ a o, shaped o → Held base news a o → Held base' news' a o) : ∀ {v : AV} {c : Value}, RV base fa ad news v c → RV base' fa ad' news' v c
  | _, _, .none => .none
  | _, _, .bool b => .bool b
  | _, _, .int i t => .int i t
  | _, _, .float x t => .float x t
  | _, _, .str s t => .str s t
  | _, _, .typ n => .typ n
  | _, _, .bi n => .bi n
  | _, _, .fn j o fd h h' => .fn j o fd h h'
  | _, _, .tup l items a n h hs => .tup l items a n (hh _ _ (.inl ⟨_, _, rfl⟩) h) (RVs.move hp hh hs)
  | _, _, .lst i a h => .lst i a (hp i a h)
  | _, _, .rng a b c r t u v h => .rng a b c r t u v (hh _ _ (.inr ⟨_, rfl⟩) h)
theorem RVs.move {base base' : Heap} {fa : FA} {ad ad' : List Addr} {news news' : Led} (hp : ∀ (i : Nat) (a : Addr), ad[i]? = some a → ad'[i]? = some a)
    (hh : ∀ a o, shaped o → Held base news a o → Held base' news' a o) : ∀ {v : List AV} {c : List Value}, RVs base fa ad news v c → RVs base' fa ad' news' v c
  | _, _, .nil => .nil
  | _, _, .cons v vs c cs h hs => .cons v vs c cs (RV.move hp hh h) (RVs.move hp hh hs)
end

/-- names and values bound to them -/
theorem zip_lookup {names : List Str} {vals : List Value} (nd : names.Nodup) {n : Nat} {x : Str} {v : Value} (hx : names[n]? = some x) (hv : vals[n]? = some v) : (names.zip vals).reverse.lookup x = some v := by
  have hz : (names.zip vals)[n]? = some (x, v) := by rw [List.getElem?_zip_eq_some]; exact ⟨hx, hv⟩
  have hn := (List.getElem?_eq_some_iff.mp hz).1
  have hsplit : names.zip vals = (names.zip vals).take n ++ (x, v) :: (names.zip vals).drop (n + 1) := by
    have h1 := List.take_append_drop n (names.zip vals)
    rw [List.drop_eq_getElem_cons hn] at h1
    rw [(List.getElem?_eq_some_iff.mp hz).2] at h1
    exact h1.symm
  rw [hsplit, List.reverse_append, List.reverse_cons, List.append_assoc]
  refine List.lookup_eq_some_iff.mpr ⟨_, _, rfl, fun p hp => ?_⟩
  have hp' := List.mem_reverse.mp hp
  obtain ⟨k, hk⟩ := List.mem_iff_getElem?.mp hp'
  rw [List.getElem?_drop] at hk
  obtain ⟨h1, h2⟩ := List.getElem?_zip_eq_some.mp (show (names.zip vals)[n + 1 + k]? = some (p.1, p.2) from hk)
  simp only [bne_iff_ne, ne_eq]
  intro e
  rw [← e] at h1
  have := nodup_inj nd h1 hx
  omega

/-- what a def gives of its plain values -/
def fnW (g : Nat → Option AV) (fns : Fns) (np : Nat) (ps : PSs) (args : List AV) (objs : List (List AV)) (Q : AV → List (List AV) → Prop) : Prop :=
  args.length = np ∧ wpSs g fns ps ⟨fun i => args[i]?, objs, []⟩ fun fl σ => match fl with | .ret v => Q v σ.objs | .next => Q .none σ.objs

/-- a def of the text, read as its plain form -/
structure DefIs (P : PF) (d : DefRec) (np : Nat) (K : Keys) (ps : PSs) : Prop where
  mem : d ∈ recsOf P.p
  body : mSs K ps d.body = true
  nodup : K.names.Nodup
  params : ∀ (vals : List Value), vals.length = np → ∀ pm cdv doc, bindArgs (docDef d.name d.params d.body d.scope pm cdv doc) ⟨vals, []⟩ = pure ((K.names.take np).zip vals)
  np : np ≤ K.names.length
  locs : ∀ x ∈ K.names, d.scope.names.lookup x = some .local ∧ (x == ("__debug__" : Str)) = false
  globs : ∀ x ∈ K.globs, d.scope.names.lookup x = some .globalImplicit
  kind : d.scope.kind = .function
  gen : d.scope.isGenerator = false
  co : d.scope.isCoroutine = false
  cell : ∀ x ∈ d.scope.names, x.2 ≠ .cell

theorem call_def {P : PF} {C : Cx} {room : Nat} {d : DefRec} {np : Nat} {K : Keys} {ps : PSs} {gval : Nat → Option AV} {fns : Fns} {k : Nat} (Fo : FrameOf P C (room + 1)) (D : DefIs P d np K ps)
    (hfa : P.mg d.name = some (.ref (C.fa.addr k)))
    (hok : ∀ C' : Cx, C'.K = K → C'.gval = gval → C'.fns = fns → C'.fa = C.fa → FrameOf P C' room → (∀ x, C'.env.kindOf x = d.scope.names.lookup x) → CxOK C') :
    ∀ (args : List AV) (cargs : List Value) (σ : St) (Q : AV → St → Prop) (s : Shared) (m : Str → Option Value) (ad : List Addr) (news : Led),
    Rel C σ s.heap m ad news → RVs C.base C.fa ad news args cargs → fnW gval fns np ps args σ.objs (fun v objs => Q v { σ with objs := objs }) → Wp C (call (.ref (C.fa.addr k)) cargs) (PostV C Q s ad news) s := by
  intro args cargs σ Q s m ad news R0 ra0 q
  obtain ⟨A₀, base₀, outer, cn, cs, L, a, ccd, he, hA, hB, hcs⟩ := Fo.ex
  have R := R0.full
  have lf := full_le R0
  have ra := ra0.le lf
  have hL : C.env.locals = L := by rw [he]; rfl
  obtain ⟨f, o, pm, code, doc, h1, h2, h3, h4⟩ := Fo.top.fn d D.mem
  rw [hfa] at h1
  cases h1
  have hlen : cargs.length = np := by rw [← ra.length]; exact q.1
  show wpAny (model C.prog C.w) C.A _ _ _ _
  rw [hA]
  have F0 : Fr C.base L s.heap m := hL ▸ R.F
  have hdepth : (A₀.deeper (envOf cn cs L a ccd)).depth + (room + 1) < recursionLimit := hA ▸ Fo.depth
  refine call_top hB F0 Fo.top h2 h3 h4 (by omega) (D.params cargs hlen pm code doc) (fun x hx => ?_) (fun h₁ F₁ T₁ B₁ => ?_) hcs D.co D.gen D.kind D.cell
  · have hm := (List.of_mem_zip hx).1
    exact (D.locs x.1 (List.mem_of_mem_take hm)).1
  · let env' := envOf d.name d.scope s.heap.objs.size (C.fa.addr k) code
    let C' : Cx := { prog := C.prog, w := C.w, A := (A₀.deeper (envOf cn cs L a ccd)).deeper env', env := env', base := s.heap, fa := C.fa, K := K, gval := gval, fns := fns }
    have Fo' : FrameOf P C' room := by
      refine ⟨⟨_, _, _, _, _, _, _, _, rfl, rfl, B₁, D.kind⟩, Fo.prog, Fo.w, T₁, ?_, ?_, ?_, fun b o h => R.F.keep _ _ (Fo.keep _ _ h)⟩
      · show (A₀.deeper (envOf cn cs L a ccd)).depth + 1 + room < recursionLimit
        omega
      · show (A₀.deeper (envOf cn cs L a ccd)).handled = none
        rw [← hA]; exact Fo.hh
      · have := Fo.units
        rw [hA] at this
        show (A₀.deeper (envOf cn cs L a ccd)).units + 3 + 3 * room + 64 < cLine
        omega
    have ok' := hok C' rfl rfl rfl rfl Fo' fun x => rfl
    have held : ∀ {a : Addr} {o : Obj}, Held C.base (fullLed C.base C.env.locals s.heap) a o → s.heap.get? a = some o := fun h => h.get R
    have toC' : ∀ {v : List AV} {cv : List Value}, RVs C.base C.fa ad (fullLed C.base C.env.locals s.heap) v cv → RVs s.heap C.fa ad [] v cv := fun h =>
      h.move (fun _ _ h => h) (fun a o _ h => .inr (held h))
    have R' : Rel C' ⟨fun i => args[i]?, σ.objs, []⟩ h₁ (fun x => ((K.names.take np).zip cargs).reverse.lookup x) ad [] := by
      refine ⟨F₁, News.nil, fun n v hv => ?_, R.len, fun i l hl => ?_, fun i hi => ?_, R.inj⟩
      · obtain ⟨cv, hcv, rv⟩ := (toC' ra).get n v hv
        have hn : n < np := by rw [← hlen]; exact (List.getElem?_eq_some_iff.mp hcv).1
        have hx : K.names[n]? = some (K.names[n]'(by have := D.np; omega)) := List.getElem?_eq_getElem _
        refine ⟨_, cv, hx, zip_lookup (nd := List.Sublist.nodup (List.take_sublist _ _) D.nodup) (n := n) (by rw [List.getElem?_take_of_lt hn]; exact hx) hcv, rv⟩
      · obtain ⟨b, items, n, ha, hd, rs⟩ := R.obj i l hl
        exact ⟨b, items, n, ha, ⟨.inr (held hd.1), hd.2⟩, toC' rs⟩
      · cases hi
    refine wpAny_mono (soundSs ok' ps d.body D.body _ _ { s with heap := h₁, toks := _ } _ _ _ q.2 R') (fun fl s' hp => ?_) (fun _ _ x => x.elim)
    obtain ⟨fl', σ₁, m₁, ad₁, news₁, q₁, hf, R₁, l₁, r₁⟩ := hp
    refine leave_ R₁.F fun F' => ?_
    have keep : ∀ b o, s.heap.get? b = some o → s'.heap.get? b = some o := R₁.F.keep
    have hsL : ∃ oL es ep, s.heap.get? L = some oL ∧ oL.data = .dict es ep := by
      obtain ⟨oL, es, ep, hL', hd', _⟩ := F0.ns
      exact ⟨oL, es, ep, hL', hd'⟩
    have hheld : ∀ (b : Addr) (o : Obj), shaped o → Held s.heap news₁ b o → Held C.base (fullLed C.base C.env.locals s.heap ++ news₁) b o := by
      intro b o hdat h
      rcases h with h | h
      · exact .inl (List.mem_append_right _ h)
      · by_cases hb : C.base.get? b = none
        · refine .inl (List.mem_append_left _ (mem_full h ?_ hb))
          rintro rfl
          obtain ⟨oL, es, ep, e1, e2⟩ := hsL
          rw [hL, e1] at h
          cases h
          rcases hdat with ⟨_, _, hd⟩ | ⟨_, hd⟩ <;> rw [hd] at e2 <;> cases e2
        · cases hb' : C.base.get? b with
          | none => exact absurd hb' hb
          | some o' =>
            have := R.F.keep _ _ hb'
            rw [h] at this
            cases this
            exact .inr hb'
    have hback : ∀ {v : AV} {cv : Value}, RV s.heap C.fa ad₁ news₁ v cv → RV C.base C.fa ad₁ (fullLed C.base C.env.locals s.heap ++ news₁) v cv := fun h =>
      h.move (fun _ _ h => h) hheld
    have hbacks : ∀ {v : List AV} {cv : List Value}, RVs s.heap C.fa ad₁ news₁ v cv → RVs C.base C.fa ad₁ (fullLed C.base C.env.locals s.heap ++ news₁) v cv := fun h =>
      h.move (fun _ _ h => h) hheld
    have N' : News C.base C.env.locals s'.heap (fullLed C.base C.env.locals s.heap ++ news₁) := by
      intro p hp
      rcases List.mem_append.mp hp with hp | hp
      · exact ⟨keep _ _ (R.N p hp).1, (R.N p hp).2⟩
      · obtain ⟨e1, e2, e3⟩ := R₁.N p hp
        refine ⟨e1, ?_, ?_⟩
        · rintro h
          obtain ⟨oL, es, ep, e4, _⟩ := hsL
          rw [h, hL] at e3
          have e3' : s.heap.get? L = none := e3
          rw [e4] at e3'
          cases e3'
        · cases hb' : C.base.get? p.1 with
          | none => rfl
          | some o' =>
            have h4 := R.F.keep _ _ hb'
            have e3' : s.heap.get? p.1 = none := e3
            rw [h4] at e3'
            cases e3'
    have lk : Le ad (fullLed C.base C.env.locals s.heap) ad₁ (fullLed C.base C.env.locals s.heap ++ news₁) := ⟨l₁.pre, fun _ _ h => List.mem_append_left _ h⟩
    have R₂ : Rel C { σ with objs := σ₁.objs } s'.heap m ad₁ (fullLed C.base C.env.locals s.heap ++ news₁) := by
      refine ⟨hL ▸ F', N', fun n v hv => ?_, R₁.len, fun i l hl => ?_, fun i hi => ?_, R₁.inj⟩
      · obtain ⟨x, cv, e1, e2, e3⟩ := R.loc n v hv
        exact ⟨x, cv, e1, e2, e3.le lk⟩
      · obtain ⟨b, items, n, ha, hd, rs⟩ := R₁.obj i l hl
        exact ⟨b, items, n, ha, ⟨hheld _ _ (.inl (let ⟨k, hk⟩ := hd.2.2; ⟨_, k, hk⟩)) hd.1, hd.2⟩, hbacks rs⟩
      · obtain ⟨a', o', ha', ho'⟩ := R.own i hi
        exact ⟨a', o', l₁.pre i a' ha', List.mem_append_left _ ho'⟩
    have rest : Rest s s' := Rest.mk'.trans r₁
    cases fl' with
    | ret v =>
      cases fl with
      | ret cv => exact ⟨v, _, m, ad₁, _, q₁, hback hf, R₂, lf.trans lk, rest⟩
      | _ => cases hf
    | next =>
      cases fl with
      | next => exact ⟨.none, _, m, ad₁, _, q₁, .none, R₂, lf.trans lk, rest⟩
      | _ => cases hf

theorem intsRV {base : Heap} {fa : FA} {ad : List Addr} {news : Led} : ∀ {vs : List Value} {ns : List Int}, IntsAre vs ns → RVs base fa ad news (ns.map .int) vs
  | _, _, .nil => .nil
  | _, _, .cons n t h => .cons _ _ _ _ (.int n t) (intsRV h)

/-- the law's call: its plain form's answer is the call's -/
theorem law_start {prog : Program} {w : World} {p : Program} {loose : List Str} {mean : ExcName → Option Value} {mg mb : Str → Option Value} {h₀ : Heap} {cn : Str} {cs : Scope} {L a l : Addr} {cd : Value} {x₀ : Str} {vs : List Value} {ns : List Int}
    {s : Shared} {Q : Flow → Shared → Prop} {E : Value → Shared → Prop} {body : List Stmt} {K : Keys} {ps : PSs} {gval : Nat → Option AV} {fns : Fns} {fa : FA}
    (T : Top p loose mean mg mb h₀) (F : Fr h₀ L s.heap (fun x => List.lookup x [(x₀, Value.ref l)].reverse)) (hL : h₀.IsList l vs.toArray) (hI : IntsAre vs ns)
    (hb : mSs K ps body = true) (hn0 : K.names[0]? = some x₀) (hcs : cs.kind = .function) (hfa : fa.top = h₀)
    (hok : ∀ C : Cx, C.K = K → C.gval = gval → C.fns = fns → C.fa = fa → FrameOf ⟨prog, w, p, loose, mean, mg, mb⟩ C 8 → (∀ x, C.env.kindOf x = cs.names.lookup x) → CxOK C)
    (q : wpSs gval fns ps ⟨fun i => if i = 0 then some (.lst 0) else none, [ns.map .int], []⟩ fun fl _ => fl = .ret (.bool true))
    (hQ : ∀ h' tk m', Fr h₀ L h' m' → Q (.ret (.bool true)) { s with heap := h', toks := tk }) :
    wpAny (model prog w) (callerA.deeper (envOf cn cs L a cd)) (execs body (envOf cn cs L a cd)) Q E s := by
  let C : Cx := { prog := prog, w := w, A := callerA.deeper (envOf cn cs L a cd), env := envOf cn cs L a cd, base := h₀, fa := fa, K := K, gval := gval, fns := fns }
  have Fo : FrameOf ⟨prog, w, p, loose, mean, mg, mb⟩ C 8 := by
    refine ⟨⟨callerA, h₀, [], cn, cs, L, a, cd, rfl, rfl, below_caller h₀, hcs⟩, rfl, rfl, T, ?_, rfl, ?_, fun b o h => by subst hfa; exact h⟩
    · show callerA.depth + 1 + 8 < recursionLimit
      decide
    · show callerA.units + 3 + 3 * 8 + 64 < cLine
      decide
  have ok := hok C rfl rfl rfl rfl Fo fun _ => rfl
  have R : Rel C ⟨fun i => if i = 0 then some (.lst 0) else none, [ns.map .int], []⟩ s.heap (fun x => List.lookup x [(x₀, Value.ref l)].reverse) [l] [] := by
    refine ⟨F, News.nil, fun n v hv => ?_, rfl, fun i k hk => ?_, (fun i hi => nomatch hi), fun i j a hi hj => ?_⟩
    · simp only at hv
      split at hv
      · rename_i hn
        cases hv
        subst hn
        exact ⟨x₀, .ref l, hn0, by simp, .lst 0 l rfl⟩
      · cases hv
    · have : i = 0 := by
        have := (List.getElem?_eq_some_iff.mp hk).1
        simp at this
        omega
      subst this
      simp only [List.getElem?_cons_zero, Option.some.injEq] at hk
      subst hk
      obtain ⟨o, ho, hc, n, hd⟩ := hL
      exact ⟨l, vs, o, rfl, ⟨.inr ho, hc, n, hd⟩, intsRV hI⟩
    · have h1 := (List.getElem?_eq_some_iff.mp hi).1
      have h2 := (List.getElem?_eq_some_iff.mp hj).1
      simp at h1 h2
      omega
  refine wpAny_mono (soundSs ok ps body hb _ _ s _ _ _ q R) (fun f s' hp => ?_) (fun _ _ x => x.elim)
  obtain ⟨fl, σ', m', ad', news', rfl, hf, R', _, ⟨h', tk, rfl⟩⟩ := hp
  cases f with
  | ret cv => cases hf; exact hQ h' tk m' R'.F
  | _ => cases hf

def noFns : Fns := fun _ _ _ _ => False

theorem ok_of {P : PF} {C : Cx} {room : Nat} (Fo : FrameOf P C room) (G : GOK P C.fa C.K.globs C.gval) (nd : C.K.names.Nodup) (locs : ∀ x ∈ C.K.names, C.env.kindOf x = some .local ∧ (x == ("__debug__" : Str)) = false)
    (globs : ∀ x ∈ C.K.globs, C.env.kindOf x = some .globalImplicit)
    (call : ∀ (k : Nat) (args : List AV) (cargs : List Value) (σ : St) (Q : AV → St → Prop) (s : Shared) (m : Str → Option Value) (ad : List Addr) (news : Led),
      Rel C σ s.heap m ad news → RVs C.base C.fa ad news args cargs → C.fns k args σ.objs (fun v objs => Q v { σ with objs := objs }) → Wp C (call (.ref (C.fa.addr k)) cargs) (PostV C Q s ad news) s) : CxOK C := by
  refine ⟨Fo.hh, Fo.keep, by have := Fo.units; omega, ?_, nd, locs, globs_ok Fo G globs, call⟩
  obtain ⟨A₀, base₀, outer, cn, cs, L, a, ccd, he, hA, hB, hcs⟩ := Fo.ex
  rw [he]
  exact hcs

/-- where the defs stand -/
def faOf (mg : Str → Option Value) (h : Heap) (names : List Str) : FA := ⟨fun k => match mg (names.getD k "") with | some (.ref a) => a | _ => 0, h⟩

theorem fa_at {p : Program} {loose : List Str} {mean : ExcName → Option Value} {mg mb : Str → Option Value} {h : Heap} (T : Top p loose mean mg mb h) {d : DefRec} (hd : d ∈ recsOf p) {names : List Str} {k : Nat} (hn : names[k]? = some d.name) :
    mg d.name = some (.ref ((faOf mg h names).addr k)) ∧ ∃ o fd, h.get? ((faOf mg h names).addr k) = some o ∧ o.data = .func fd := by
  obtain ⟨a, o, pm, code, doc, h1, h2, h3, h4⟩ := T.fn d hd
  have e : (faOf mg h names).addr k = a := by
    simp only [faOf, List.getD, hn, Option.getD_some, h1]
  rw [e]
  exact ⟨h1, o, _, h2, h3⟩

theorem glob_bi {p : Program} {loose : List Str} {mean : ExcName → Option Value} {mg mb : Str → Option Value} {h : Heap} (T : Top p loose mean mg mb h) {x : Str} {v : Value} (hv : bootBuiltins x = some v)
    (h1 : x ∉ startupNames) (h2 : x ∉ loose) (h3 : x ∉ (recsOf p).map (·.name)) (h4 : x ∉ (litsOf p).map (·.1)) (h4c : x ∉ (clssOf p loose).map (·.name)) (hn : x ≠ "__name__") : mg x = none ∧ mb x = some v :=
  ⟨T.free x h1 h2 h3 h4 h4c, (T.builtins x hn).trans hv⟩
theorem glob_flt {lv : List (Str × WData)} {mg : Str → Option Value} {h : Heap} (V : LooseAre lv mg h) {x : Str} {b : UInt64} (hx : (x, WData.float b) ∈ lv) (hb : Float64.isNaN b = false) : ∃ t, mg x = some (.float b t) := by
  obtain ⟨v, h1, h2⟩ := V.val _ hx
  obtain ⟨b', t, rfl, hc, _⟩ := readsW_float_inv h2
  refine ⟨t, ?_⟩
  have : b' = b := by
    by_cases hn : Float64.isNaN b' = true
    · unfold canon at hc
      rw [if_pos hn] at hc
      subst hc
      exact absurd hb (by decide +kernel)
    · rw [canon_of_not_nan (by simpa using hn)] at hc
      exact hc
  rw [h1, this]
end Mine
namespace Mine
open PySem PySem.W PySem.Float64

section
variable {g : Nat → Option AV} {fns : Fns} {σ : St} {Q : AV → St → Prop} {P : Fl → St → Prop} {B : Bool → Prop}

theorem loc_set_eq {n : Nat} {v : AV} : (σ.set n v).loc n = some v := by simp [St.set, upd]
theorem loc_set_ne {n k : Nat} {v : AV} {o : Option AV} (hne : n ≠ k) (h : σ.loc n = o) : (σ.set k v).loc n = o := by simp [St.set, upd, hne, h]
theorem loc_alloc {n : Nat} {l : List AV} {o : Option AV} (h : σ.loc n = o) : (σ.alloc l).loc n = o := h
theorem objs_set {n : Nat} {v : AV} {o : List (List AV)} (h : σ.objs = o) : (σ.set n v).objs = o := h
theorem objs_alloc {l : List AV} {o : List (List AV)} (h : σ.objs = o) : (σ.alloc l).objs = o ++ [l] := by simp [St.alloc, h]

theorem i_const {v : AV} (h : Q v σ) : wpE g fns (.const v) σ Q := h
theorem i_loc {n : Nat} {v : AV} (e : σ.loc n = some v) (h : Q v σ) : wpE g fns (.loc n) σ Q := ⟨v, e, h⟩
theorem i_glob {n : Nat} {v : AV} (e : g n = some v) (h : Q v σ) : wpE g fns (.glob n) σ Q := ⟨v, e, h⟩
theorem i_bin {op : Operator} {l r : PE} (h : wpE g fns l σ fun a σ₁ => wpE g fns r σ₁ fun b σ₂ => binL op a b σ₂ Q) : wpE g fns (.bin op l r) σ Q := h
theorem i_neg {e : PE} (h : wpE g fns e σ fun v σ₁ => ∃ i, v = .int i ∧ Q (.int (-i)) σ₁) : wpE g fns (.neg e) σ Q := h
theorem i_not {e : PE} (h : wpE g fns e σ fun v σ₁ => truthW v σ₁ fun b => Q (.bool (!b)) σ₁) : wpE g fns (.not e) σ Q := h
theorem i_cmp {op : CmpOp} {l r : PE} (h : wpE g fns l σ fun a σ₁ => wpE g fns r σ₁ fun b σ₂ => cmpL op a b σ₂ fun c => Q (.bool c) σ₂) : wpE g fns (.cmp op l r) σ Q := h
theorem i_bools {isAnd : Bool} {e : PE} {es : PEs} (h : wpE g fns e σ fun v σ₁ => wpBr g fns isAnd es v σ₁ Q) : wpE g fns (.bools isAnd (.cons e es)) σ Q := h
theorem i_br_nil {isAnd : Bool} {v : AV} (h : Q v σ) : wpBr g fns isAnd .nil v σ Q := h
theorem i_and {b : Bool} {e : PE} {es : PEs} (h : b = true → wpE g fns e σ fun u σ₁ => wpBr g fns true es u σ₁ Q) (h' : b = false → Q (.bool b) σ) : wpBr g fns true (.cons e es) (.bool b) σ Q := ⟨h, h'⟩
theorem i_or {b : Bool} {e : PE} {es : PEs} (h : b = false → wpE g fns e σ fun u σ₁ => wpBr g fns false es u σ₁ Q) (h' : b = true → Q (.bool b) σ) : wpBr g fns false (.cons e es) (.bool b) σ Q := ⟨h, h'⟩
theorem i_ite {c a b : PE} (h : wpE g fns c σ fun v σ₁ => truthW v σ₁ fun t => (t = true → wpE g fns a σ₁ Q) ∧ (t = false → wpE g fns b σ₁ Q)) : wpE g fns (.ite c a b) σ Q := h
theorem i_call {f : PE} {args : PEs} (h : wpE g fns f σ fun fv σ₁ => fv.callable = true ∧ wpEs g fns args σ₁ fun vs σ₂ => callW fns fv vs σ₂ Q) : wpE g fns (.call f args) σ Q := h
theorem i_sub {e i : PE} (h : wpE g fns e σ fun o σ₁ => wpE g fns i σ₁ fun v σ₂ => subW o v σ₂ Q) : wpE g fns (.sub e i) σ Q := h
theorem i_slTo {e hi : PE} (h : wpE g fns e σ fun o σ₁ => wpE g fns hi σ₁ fun h σ₂ => ∃ k, h = .int k ∧ sliceW o none (some k) σ₂ Q) : wpE g fns (.slTo e hi) σ Q := h
theorem i_slFrom {e lo : PE} (h : wpE g fns e σ fun o σ₁ => wpE g fns lo σ₁ fun l σ₂ => ∃ k, l = .int k ∧ sliceW o (some k) none σ₂ Q) : wpE g fns (.slFrom e lo) σ Q := h
theorem i_slAll {e lo hi : PE} (h : wpE g fns e σ fun o σ₁ => wpE g fns lo σ₁ fun l σ₂ => wpE g fns hi σ₂ fun h σ₃ => ∃ k j, l = .int k ∧ h = .int j ∧ sliceW o (some k) (some j) σ₃ Q) : wpE g fns (.slAll e lo hi) σ Q := h
theorem i_tuple {es : PEs} (h : wpEs g fns es σ fun vs σ₁ => vs.length ≤ sizeLine ∧ Q (.tup vs) σ₁) : wpE g fns (.tuple es) σ Q := h
theorem l_new {o : List (List AV)} {vs : List AV} {R : Nat → Prop} (ho : σ.objs = o) (hz : vs.length ≤ sizeLine) (h : R o.length) : vs.length ≤ sizeLine ∧ ∃ n, σ.objs.length = n ∧ R n := ⟨hz, _, by rw [ho], h⟩
theorem i_list {es : PEs} (h : wpEs g fns es σ fun vs σ₁ => vs.length ≤ sizeLine ∧ ∃ n, σ₁.objs.length = n ∧ Q (.lst n) (σ₁.alloc vs)) : wpE g fns (.list es) σ Q := h
theorem i_es_nil {R : List AV → St → Prop} (h : R [] σ) : wpEs g fns .nil σ R := h
theorem i_es_cons {e : PE} {es : PEs} {R : List AV → St → Prop} (h : wpE g fns e σ fun v σ₁ => wpEs g fns es σ₁ fun vs σ₂ => R (v :: vs) σ₂) : wpEs g fns (.cons e es) σ R := h
theorem i_truth {b : Bool} (h : B b) : truthW (.bool b) σ B := h

theorem i_nil (h : P .next σ) : wpSs g fns .nil σ P := h
theorem i_assign {n : Nat} {e : PE} {ss : PSs} (h : wpE g fns e σ fun v σ₁ => wpSs g fns ss (σ₁.set n v) P) : wpSs g fns (.cons (.assign (.name n) e) ss) σ P := h
theorem i_ret {e : PE} {ss : PSs} (h : wpE g fns e σ fun v σ₁ => P (.ret v) σ₁) : wpSs g fns (.cons (.ret e) ss) σ P := h
theorem i_if {c : PE} {a b ss : PSs} (h : wpE g fns c σ fun v σ₁ => truthW v σ₁ fun t => (t = true → wpSs g fns a σ₁ fun fl σ₂ => match fl with | .next => wpSs g fns ss σ₂ P | .ret v => P (.ret v) σ₂) ∧
    (t = false → wpSs g fns b σ₁ fun fl σ₂ => match fl with | .next => wpSs g fns ss σ₂ P | .ret v => P (.ret v) σ₂)) : wpSs g fns (.cons (.ifs c a b) ss) σ P := h
theorem i_for {x : Nat} {it : PE} {body ss : PSs} (h : wpE g fns it σ fun v σ₁ => itemsW v σ₁ fun n item => ∃ J : Nat → St → Prop, J 0 σ₁ ∧
      (∀ i σ₂, i < n → J i σ₂ → wpSs g fns body (σ₂.set x (item i)) fun fl σ₃ => match fl with | .next => J (i + 1) σ₃ | .ret v => P (.ret v) σ₃) ∧ (∀ σ₂, J n σ₂ → wpSs g fns ss σ₂ P)) : wpSs g fns (.cons (.for_ (.name x) it body) ss) σ P := h

/-! operators -/
theorem o_addI {x y : Int} (h : Q (.int (x + y)) σ) : binL .Add (.int x) (.int y) σ Q := h
theorem o_subI {x y : Int} (h : Q (.int (x - y)) σ) : binL .Sub (.int x) (.int y) σ Q := h
theorem o_mulI {x y : Int} (hm : IntMulOk x y) (h : Q (.int (x * y)) σ) : binL .Mult (.int x) (.int y) σ Q := ⟨hm, h⟩
theorem o_fdivI {x y : Int} (h0 : y ≠ 0) (h1 : y.natAbs.log2 < 9000) (h : Q (.int (x.fdiv y)) σ) : binL .FloorDiv (.int x) (.int y) σ Q := ⟨⟨h0, h1⟩, h⟩
theorem o_modI {x y : Int} (h0 : y ≠ 0) (h : Q (.int (x.fmod y)) σ) : binL .Mod (.int x) (.int y) σ Q := ⟨h0, h⟩
theorem o_powI {x y : Int} (h0 : 0 ≤ y) (h1 : y ≤ 1000000) (h2 : x.natAbs < 2 ^ 64) (h : Q (.int (x ^ y.toNat)) σ) : binL .Pow (.int x) (.int y) σ Q := ⟨⟨h0, h1, h2⟩, h⟩
theorem o_divI {x y : Int} (h0 : y ≠ 0) (h1 : x.natAbs < 2 ^ 1023) (h : Q (.float (divII x y)) σ) : binL .Div (.int x) (.int y) σ Q := ⟨⟨h0, h1⟩, h⟩
theorem o_addF {x y : UInt64} (h : Q (.float (add x y)) σ) : binL .Add (.float x) (.float y) σ Q := h
theorem o_subF {x y : UInt64} (h : Q (.float (sub x y)) σ) : binL .Sub (.float x) (.float y) σ Q := h
theorem o_mulF {x y : UInt64} (h : Q (.float (mul x y)) σ) : binL .Mult (.float x) (.float y) σ Q := h
theorem o_divF {x y : UInt64} (h0 : isZero y = false) (h : Q (.float (div x y)) σ) : binL .Div (.float x) (.float y) σ Q := ⟨h0, h⟩
theorem o_modF {x y : UInt64} (h0 : isZero y = false) (h : Q (.float (divmod x y).2) σ) : binL .Mod (.float x) (.float y) σ Q := ⟨h0, h⟩
theorem o_addFI {x : UInt64} {n : Int} (h0 : n.natAbs < 2 ^ 1023) (h : Q (.float (add x (ofInt n))) σ) : binL .Add (.float x) (.int n) σ Q := ⟨h0, h⟩
theorem o_subFI {x : UInt64} {n : Int} (h0 : n.natAbs < 2 ^ 1023) (h : Q (.float (sub x (ofInt n))) σ) : binL .Sub (.float x) (.int n) σ Q := ⟨h0, h⟩
theorem o_mulFI {x : UInt64} {n : Int} (h0 : n.natAbs < 2 ^ 1023) (h : Q (.float (mul x (ofInt n))) σ) : binL .Mult (.float x) (.int n) σ Q := ⟨h0, h⟩
theorem o_addIF {x : UInt64} {n : Int} (h0 : n.natAbs < 2 ^ 1023) (h : Q (.float (add (ofInt n) x)) σ) : binL .Add (.int n) (.float x) σ Q := ⟨h0, h⟩
theorem o_subIF {x : UInt64} {n : Int} (h0 : n.natAbs < 2 ^ 1023) (h : Q (.float (sub (ofInt n) x)) σ) : binL .Sub (.int n) (.float x) σ Q := ⟨h0, h⟩
theorem o_mulIF {x : UInt64} {n : Int} (h0 : n.natAbs < 2 ^ 1023) (h : Q (.float (mul (ofInt n) x)) σ) : binL .Mult (.int n) (.float x) σ Q := ⟨h0, h⟩
theorem o_addL {i j : Nat} {o : List (List AV)} {l k : List AV} (ho : σ.objs = o) (hi : o[i]? = some l) (hj : o[j]? = some k) (hz : l.length + k.length ≤ sizeLine) (h : Q (.lst o.length) (σ.alloc (l ++ k))) : binL .Add (.lst i) (.lst j) σ Q := by
  subst ho
  exact ⟨l, k, hi, hj, hz, h⟩
theorem c_int {op : CmpOp} {x y : Int} (h0 : isOrd op = true) (h : B (icmp op x y)) : cmpL op (.int x) (.int y) σ B := ⟨h0, h⟩
theorem c_flt {op : CmpOp} {x y : UInt64} (h0 : isOrd op = true) (h : B (fcmp op (cmp x y))) : cmpL op (.float x) (.float y) σ B := ⟨h0, h⟩
theorem c_neL {i j : Nat} {o : List (List AV)} {l k : List AV} {ns ms : List Int} (ho : σ.objs = o) (hi : o[i]? = some l) (hj : o[j]? = some k) (h1 : intsOf l = some ns) (h2 : intsOf k = some ms) (h : B (!decide (ns = ms))) : cmpL .NotEq (.lst i) (.lst j) σ B := by
  subst ho
  exact ⟨l, k, ns, ms, ⟨hi, hj⟩, ⟨h1, h2⟩, .inr ⟨rfl, h⟩⟩
theorem s_item {j : Nat} {k : Int} {o : List (List AV)} {l : List AV} {v : AV} (ho : σ.objs = o) (hj : o[j]? = some l) (h0 : 0 ≤ k) (h1 : k < 2 ^ 63) (hv : l[k.toNat]? = some v) (h : Q v σ) : subW (.lst j) (.int k) σ Q := by
  subst ho
  exact ⟨l, v, hj, ⟨h0, h1⟩, hv, h⟩
theorem s_slice {j : Nat} {lo hi : Option Int} {o : List (List AV)} {l : List AV} (ho : σ.objs = o) (hj : o[j]? = some l) (hz : l.length ≤ sizeLine) (h : Q (.lst o.length) (σ.alloc (pick l lo hi))) : sliceW (.lst j) lo hi σ Q := by
  subst ho
  exact ⟨l, hj, hz, h⟩
theorem k_fn {k : Nat} {args : List AV} (h : fns k args σ.objs (fun v objs => Q v { σ with objs := objs })) : callW fns (.fn k) args σ Q := h
theorem k_len {i : Nat} {o : List (List AV)} {l : List AV} (ho : σ.objs = o) (hi : o[i]? = some l) (hz : l.length < 2 ^ 40) (h : Q (.int l.length) σ) : callW fns (.bi .len) [.lst i] σ Q := by
  subst ho
  exact ⟨l, hi, hz, h⟩
theorem k_abs {x : Int} (h : Q (.int (if x < 0 then -x else x)) σ) : callW fns (.bi .abs) [.int x] σ Q := h
theorem k_min {x y : Int} (h : Q (.int (if y < x then y else x)) σ) : callW fns (.bi .min) [.int x, .int y] σ Q := h
theorem k_max {x y : Int} (h : Q (.int (if y > x then y else x)) σ) : callW fns (.bi .max) [.int x, .int y] σ Q := h
theorem k_range1 {b : Int} (h : Q (.rng 0 b 1) σ) : callW fns (.typ .range) [.int b] σ Q := h
theorem k_range3 {a b c : Int} (h0 : c ≠ 0) (h1 : c.natAbs.log2 < 9000) (h : Q (.rng a b c) σ) : callW fns (.typ .range) [.int a, .int b, .int c] σ Q := ⟨⟨h0, h1⟩, h⟩
theorem t_rng {a b c : Int} {K : Nat → (Nat → AV) → Prop} (h0 : Builtin.Range.small a b c = true) (h1 : 0 < c) (h : K (Builtin.Range.rangeSize a b c).toNat fun i => .int (a + (i : Int) * c)) : itemsW (.rng a b c) σ K := ⟨⟨h0, h1⟩, h⟩
end
end Mine
namespace Mine
open PySem PySem.Float64

/-! ## floats by their values -/

/-- a finite float -/
def Fi (x : UInt64) : Prop := ∃ a m e, decode x = .fin a m e
/-- a magnitude (in 2 ^ -1074ths) that a float has -/
def Rep (Z : Nat) : Prop := ∃ t, t < infMag ∧ V t = Z

theorem V_inj {t t' : Nat} (h : V t = V t') : t = t' := by
  rcases Nat.lt_trichotomy t t' with h1 | h1 | h1
  · have := V_lt h1; omega
  · exact h1
  · have := V_lt h1; omega

theorem rep_of {q k : Nat} (hq : q ≤ 2 ^ 53) (hk : k ≤ 2000) : Rep (q * 2 ^ k) := by
  induction k generalizing q with
  | zero =>
    refine ⟨q, ?_, ?_⟩
    · have : infMag = 2047 * 2 ^ 52 := rfl
      omega
    · have := V_at (k := 0) (q := q) hq (.inr rfl)
      simpa using this
  | succ k ih =>
    by_cases h : 2 ^ 52 ≤ q
    · refine ⟨(k + 1) * 2 ^ 52 + q, ?_, V_at hq (.inl h)⟩
      have : infMag = 2047 * 2 ^ 52 := rfl
      omega
    · have := ih (q := 2 * q) (by omega) (by omega)
      rw [Nat.pow_succ, ← Nat.mul_assoc, Nat.mul_right_comm]
      rw [Nat.mul_comm q 2]
      exact this

theorem fi_pack {s : Bool} {t : Nat} (h : t < infMag) : Fi (pack s t) ∧ val (pack s t) = sgn s (V t) := by
  obtain ⟨m, e, hd, _⟩ := decode_pack s h
  exact ⟨⟨s, m, e, hd⟩, val_pack s h⟩

theorem right_exact {r : UInt64} {neg : Bool} {W D Z : Nat} (h : Right r neg W D) (hD : 0 < D) (hW : W = D * Z) (hz : Rep Z) : Fi r ∧ val r = sgn neg Z := by
  obtain ⟨t, rfl, ht, hov, hn⟩ := h
  obtain ⟨t₀, ht₀, hV⟩ := hz
  have hlt : t < infMag := by
    rcases Nat.lt_or_eq_of_le ht with h | h
    · exact h
    · exfalso
      have h1 := hov.mp h
      have hB : V t₀ ≤ V (infMag - 1) := V_mono (by omega)
      have hA : V (infMag - 1) = (2 ^ 53 - 1) * 2 ^ 2045 := by
        have e : infMag - 1 = 2045 * 2 ^ 52 + (2 ^ 53 - 1) := by unfold infMag; omega
        rw [e]
        exact V_at (k := 2045) (q := 2 ^ 53 - 1) (by omega) (.inl (by omega))
      rw [hW, ← hV] at h1
      have h2 : D * V t₀ ≤ D * ((2 ^ 53 - 1) * 2 ^ 2045) := Nat.mul_le_mul_left D (by omega)
      have h3 : (0 : Nat) < 2 ^ 2045 := Nat.two_pow_pos _
      generalize (2 : Nat) ^ 2045 = Y at *
      have h4 : D * ((2 ^ 54 - 1) * Y) = 2 * (D * ((2 ^ 53 - 1) * Y)) + D * Y := by
        have : (2 ^ 54 - 1) * Y = 2 * ((2 ^ 53 - 1) * Y) + Y := by omega
        rw [this, Nat.mul_add, Nat.mul_left_comm]
      have h5 : 0 < D * Y := Nat.mul_pos hD h3
      omega
  have hd := (hn hlt t₀).1
  rw [hW, ← hV] at hd
  have e0 : dist (D * V t₀) (D * V t₀) = 0 := by unfold dist; omega
  rw [e0] at hd
  have e1 : D * V t = D * V t₀ := by unfold dist at hd; omega
  have e2 : V t = V t₀ := Nat.eq_of_mul_eq_mul_left hD e1
  rw [← hV, ← e2]
  exact fi_pack hlt

theorem sgn_abs (z : Int) : sgn (decide (z < 0)) z.natAbs = z := by
  unfold sgn
  by_cases h : z < 0 <;> simp [h] <;> omega

theorem val_zero (s : Bool) : Fi (zero s) ∧ val (zero s) = 0 := by
  have := fi_pack (s := s) (t := 0) (by unfold infMag; omega)
  refine ⟨this.1, this.2.trans ?_⟩
  rw [V_zero]
  unfold sgn
  cases s <;> rfl

/-! ### exact results -/
theorem add_exact {x y : UInt64} (hx : Fi x) (hy : Fi y) (hz : Rep (val x + val y).natAbs) : Fi (add x y) ∧ val (add x y) = val x + val y := by
  obtain ⟨a, m, e, hx⟩ := hx
  obtain ⟨b, k, f, hy⟩ := hy
  have h := add_right hx hy
  by_cases h0 : val x + val y = 0
  · rw [h.1 h0, h0]
    exact val_zero _
  · have := right_exact (h.2 h0) Nat.one_pos (by rw [Nat.one_mul]) hz
    rw [sgn_abs] at this
    exact this
theorem sub_exact {x y : UInt64} (hx : Fi x) (hy : Fi y) (hz : Rep (val x - val y).natAbs) : Fi (sub x y) ∧ val (sub x y) = val x - val y := by
  obtain ⟨a, m, e, hx⟩ := hx
  obtain ⟨b, k, f, hy⟩ := hy
  have h := sub_right hx hy
  by_cases h0 : val x - val y = 0
  · rw [h.1 h0, h0]
    exact val_zero _
  · have := right_exact (h.2 h0) Nat.one_pos (by rw [Nat.one_mul]) hz
    rw [sgn_abs] at this
    exact this

theorem sgn_sgn (a b : Bool) (m k : Nat) : sgn (a != b) (m * k) = sgn a m * sgn b k := by
  cases a <;> cases b <;> simp [sgn, Int.neg_mul, Int.mul_neg]
theorem val_sgn {x : UInt64} {a : Bool} {m : Nat} {e : Int} (h : decode x = .fin a m e) : val x = sgn a (val x).natAbs := by
  rw [val_eq h, sgn_natAbs]

/-- 2 ^ 1074, the parts that values are counted in -/
def TT : Nat := 2 ^ 1074
theorem TT_pos : 0 < TT := Nat.two_pow_pos _
theorem TT_int : (2 : Int) ^ 1074 = (TT : Int) := by unfold TT; rw [Int.natCast_pow]; rfl
theorem TT_eq (e : Nat) (h : e ≤ 1074) : TT = 2 ^ (1074 - e) * 2 ^ e := by
  unfold TT
  rw [← Nat.pow_add, Nat.sub_add_cancel h]

theorem mul_exact {x y : UInt64} {Z : Int} (hx : Fi x) (hy : Fi y) (hZ : val x * val y = Z * TT) (hz : Rep Z.natAbs) : Fi (mul x y) ∧ val (mul x y) = Z := by
  obtain ⟨a, m, e, hx⟩ := hx
  obtain ⟨b, k, f, hy⟩ := hy
  have h : Right (mul x y) (a != b) ((val x).natAbs * (val y).natAbs) TT := mul_right hx hy
  have e1 : (val x).natAbs * (val y).natAbs = TT * Z.natAbs := by
    rw [← Int.natAbs_mul, hZ, Int.natAbs_mul, Int.natAbs_natCast, Nat.mul_comm]
  have := right_exact h TT_pos e1 hz
  refine ⟨this.1, this.2.trans ?_⟩
  have e2 : sgn (a != b) ((val x).natAbs * (val y).natAbs) = val x * val y := by
    rw [sgn_sgn, ← val_sgn hx, ← val_sgn hy]
  rw [e1, Nat.mul_comm, sgn_mul, hZ] at e2
  have hp : ((TT : Nat) : Int) ≠ 0 := by have := TT_pos; omega
  exact Int.eq_of_mul_eq_mul_right hp e2

/-- the value of x is n / 2 ^ e -/
structure Is (x : UInt64) (n : Int) (e : Nat) : Prop where
  fi : Fi x
  eq : val x * 2 ^ e = n * TT

theorem pow_pos_int (e : Nat) : (0 : Int) < 2 ^ e := Int.pow_pos (by decide)
theorem Is.inj {x : UInt64} {n m : Int} {e : Nat} (h : Is x n e) (k : Is x m e) : n = m := by
  have := h.eq.symm.trans k.eq
  exact Int.eq_of_mul_eq_mul_right (by have := TT_pos; omega) this
theorem Is.val_eq {x y : UInt64} {n : Int} {e : Nat} (h : Is x n e) (k : Is y n e) : val x = val y := by
  have := h.eq.trans k.eq.symm
  exact Int.eq_of_mul_eq_mul_right (Int.ne_of_gt (pow_pos_int e)) this
theorem Is.up {x : UInt64} {n : Int} {e : Nat} (h : Is x n e) (k : Nat) : Is x (n * 2 ^ k) (e + k) :=
  ⟨h.fi, by rw [Int.pow_add, ← Int.mul_assoc, h.eq, Int.mul_right_comm]⟩
theorem Is.down {x : UInt64} {n : Int} {e k : Nat} (h : Is x (n * 2 ^ k) (e + k)) : Is x n e := by
  refine ⟨h.fi, ?_⟩
  have := h.eq
  rw [Int.pow_add, ← Int.mul_assoc, Int.mul_right_comm n] at this
  exact Int.eq_of_mul_eq_mul_right (Int.ne_of_gt (pow_pos_int k)) this

/-- few places make a float -/
theorem rep_few {z n : Int} {e : Nat} (h : z * 2 ^ e = n * TT) (hn : n.natAbs ≤ 2 ^ 53) (he : e ≤ 1074) : Rep z.natAbs := by
  have h1 : z = n * 2 ^ (1074 - e) := by
    rw [TT_eq e he] at h
    have : z * 2 ^ e = n * 2 ^ (1074 - e) * 2 ^ e := by
      rw [h, Int.natCast_mul, Int.natCast_pow, Int.natCast_pow, Int.mul_assoc]; rfl
    exact Int.eq_of_mul_eq_mul_right (Int.ne_of_gt (pow_pos_int e)) this
  rw [h1, Int.natAbs_mul, Int.natAbs_pow]
  exact rep_of hn (by omega)

theorem Is.add {x y : UInt64} {n m : Int} {e : Nat} (h : Is x n e) (k : Is y m e) (hn : (n + m).natAbs ≤ 2 ^ 53) (he : e ≤ 1074) : Is (add x y) (n + m) e := by
  have hs : (val x + val y) * 2 ^ e = (n + m) * TT := by rw [Int.add_mul, h.eq, k.eq, Int.add_mul]
  have := add_exact h.fi k.fi (rep_few hs hn he)
  exact ⟨this.1, by rw [this.2]; exact hs⟩
theorem Is.sub {x y : UInt64} {n m : Int} {e : Nat} (h : Is x n e) (k : Is y m e) (hn : (n - m).natAbs ≤ 2 ^ 53) (he : e ≤ 1074) : Is (sub x y) (n - m) e := by
  have hs : (val x - val y) * 2 ^ e = (n - m) * TT := by rw [Int.sub_mul, h.eq, k.eq, Int.sub_mul]
  have := sub_exact h.fi k.fi (rep_few hs hn he)
  exact ⟨this.1, by rw [this.2]; exact hs⟩
theorem Is.mul {x y : UInt64} {n m : Int} {e f : Nat} (h : Is x n e) (k : Is y m f) (hn : (n * m).natAbs ≤ 2 ^ 53) (he : e + f ≤ 1074) : Is (mul x y) (n * m) (e + f) := by
  -- the product of the values, in parts
  have hT : (n * m * 2 ^ (1074 - (e + f))) * 2 ^ (e + f) = n * m * TT := by
    rw [TT_eq (e + f) he, Int.natCast_mul, Int.natCast_pow, Int.natCast_pow, Int.mul_assoc]; rfl
  have hZ : val x * val y = (n * m * 2 ^ (1074 - (e + f))) * TT := by
    have h1 : val x * val y * 2 ^ (e + f) = n * m * TT * TT := by
      rw [Int.pow_add]
      calc val x * val y * (2 ^ e * 2 ^ f) = (val x * 2 ^ e) * (val y * 2 ^ f) := by ac_rfl
        _ = n * TT * (m * TT) := by rw [h.eq, k.eq]
        _ = n * m * TT * TT := by ac_rfl
    have h2 : val x * val y * 2 ^ (e + f) = (n * m * 2 ^ (1074 - (e + f)) * TT) * 2 ^ (e + f) := by
      rw [h1, ← hT]; exact Int.mul_right_comm _ _ _
    exact Int.eq_of_mul_eq_mul_right (Int.ne_of_gt (pow_pos_int (e + f))) h2
  have := mul_exact h.fi k.fi hZ (rep_few hT hn he)
  exact ⟨this.1, by rw [this.2]; exact hT⟩

theorem Is.cmp {x y : UInt64} {n m : Int} {e : Nat} (h : Is x n e) (k : Is y m e) : cmp x y = some (compare n m) := by
  obtain ⟨a, m', e', hx⟩ := h.fi
  obtain ⟨b, k', f', hy⟩ := k.fi
  rw [cmp_right hx hy]
  congr 1
  have hp := pow_pos_int e
  have ht : (0 : Int) < TT := by have := TT_pos; omega
  have h1 := h.eq
  have h2 := k.eq
  rcases Int.lt_trichotomy n m with hlt | heq | hgt
  · have : val x < val y := by
      apply Int.lt_of_mul_lt_mul_right (a := 2 ^ e) _ (Int.le_of_lt hp)
      rw [h1, h2]
      exact Int.mul_lt_mul_of_pos_right hlt ht
    rw [Int.compare_eq_lt.mpr hlt, Int.compare_eq_lt.mpr this]
  · subst heq
    have : val x = val y := h.val_eq k
    rw [this]; simp
  · have : val y < val x := by
      apply Int.lt_of_mul_lt_mul_right (a := 2 ^ e) _ (Int.le_of_lt hp)
      rw [h1, h2]
      exact Int.mul_lt_mul_of_pos_right hgt ht
    rw [Int.compare_eq_gt.mpr hgt, Int.compare_eq_gt.mpr this]

theorem Is.quot {p q : Nat} {n e : Nat} {s : Bool} (hq : 0 < q) (h : p * 2 ^ e = n * q) (hn : n ≤ 2 ^ 53) (he : e ≤ 1074) : Is (ofFrac s p q) (sgn s n) e := by
  have hr : Right (ofFrac s p q) s (p * TT) q := ofFrac_right hq (by unfold TT; rfl) hq
  have h1 : p * TT = q * (n * 2 ^ (1074 - e)) := by
    rw [TT_eq e he]
    calc p * (2 ^ (1074 - e) * 2 ^ e) = p * 2 ^ e * 2 ^ (1074 - e) := by ac_rfl
      _ = n * q * 2 ^ (1074 - e) := by rw [h]
      _ = q * (n * 2 ^ (1074 - e)) := by ac_rfl
  have := right_exact hr hq h1 (rep_of hn (by omega))
  refine ⟨this.1, ?_⟩
  rw [this.2, sgn_mul, Int.natCast_pow, Int.mul_assoc, TT_eq e he, Int.natCast_mul, Int.natCast_pow, Int.natCast_pow]; rfl

theorem Is.div {p q n : Int} {e : Nat} (hq : 0 < q) (h : p * 2 ^ e = n * q) (hn : n.natAbs ≤ 2 ^ 53) (he : e ≤ 1074) : Is (ofFrac (decide (p < 0) != decide (q < 0)) p.natAbs q.natAbs) n e := by
  have hs : (decide (p < 0) != decide (q < 0)) = decide (p < 0) := by
    have : ¬ q < 0 := by omega
    simp [this]
  have h1 : p.natAbs * 2 ^ e = n.natAbs * q.natAbs := by
    have := congrArg Int.natAbs h
    rw [Int.natAbs_mul, Int.natAbs_mul, Int.natAbs_pow] at this
    exact this
  have h2 := Is.quot (s := decide (p < 0)) (by omega : 0 < q.natAbs) h1 hn he
  rw [hs]
  have h3 : sgn (decide (p < 0)) n.natAbs = n := by
    have hp := pow_pos_int e
    by_cases hp0 : p < 0
    · have : n < 0 := by
        rcases Int.lt_trichotomy n 0 with h | h0 | hgt
        · exact h
        · rw [h0, Int.zero_mul] at h
          have := Int.mul_neg_of_neg_of_pos hp0 hp
          omega
        · have h4 := Int.mul_pos hgt hq
          have := Int.mul_neg_of_neg_of_pos hp0 hp
          omega
      unfold sgn; simp [hp0]; omega
    · have : 0 ≤ n := by
        rcases Int.lt_trichotomy n 0 with hl | h0 | hgt
        · have h4 := Int.mul_neg_of_neg_of_pos hl hq
          have := Int.mul_nonneg (show 0 ≤ p by omega) (Int.le_of_lt hp)
          omega
        · omega
        · omega
      unfold sgn; simp [hp0]; omega
  rw [h3] at h2
  exact h2

theorem ofBin_right (s : Bool) (M : Nat) (g : Int) (hg : -1074 ≤ g) : Right (ofBin s M g) s (M * 2 ^ (g + 1074).toNat) 1 := by
  unfold ofBin
  refine ofFrac_right (shift_pos _ _ _ (by decide)) ?_ (by decide)
  have := shift_one M g 1074 (by omega)
  rw [Nat.mul_one]
  exact this

theorem decode_one : decode one = .fin false (2 ^ 52) (-52) := by kernel_rfl
theorem one_is : Fi one ∧ val one = TT := by
  refine ⟨⟨_, _, _, decode_one⟩, ?_⟩
  rw [Float64.val_eq decode_one]
  unfold sgn TT
  simp only [Bool.false_eq_true, if_false]
  have : (-52 + 1074 : Int).toNat = 1022 := by decide
  rw [this, ← Nat.pow_add]
theorem one_Is (e : Nat) : Is one (2 ^ e) e := ⟨one_is.1, by rw [one_is.2, Int.mul_comm]⟩

/-- the remainder of a whole turn, towards nought -/
theorem fmod_one {x : UInt64} {a : Bool} {m : Nat} {e : Int} (hx : decode x = .fin a m e) : Fi (fmod x one) ∧ val (fmod x one) = sgn a ((val x).natAbs % TT) := by
  have he := decode_ge hx
  have hm := (decode_le hx).1
  have hf : fmod x one = ofBin a (m * 2 ^ (e - min e (-52)).toNat % (2 ^ 52 * 2 ^ (-52 - min e (-52)).toNat)) (min e (-52)) := by
    unfold fmod
    rw [hx, decode_one]
    simp only [align, sgn, Bool.false_eq_true, if_false, Int.toNat_natCast]
    rfl
  have hr := ofBin_right a (m * 2 ^ (e - min e (-52)).toNat % (2 ^ 52 * 2 ^ (-52 - min e (-52)).toNat)) (min e (-52)) (by omega)
  rw [← hf] at hr
  have e1 : (m * 2 ^ (e - min e (-52)).toNat % (2 ^ 52 * 2 ^ (-52 - min e (-52)).toNat)) * 2 ^ (min e (-52) + 1074).toNat = (val x).natAbs % TT := by
    rw [val_natAbs hx, ← Nat.mul_mod_mul_right, Nat.mul_assoc, ← Nat.pow_add, Nat.mul_assoc, ← Nat.pow_add, ← Nat.pow_add]
    unfold TT
    have a1 : (e - min e (-52)).toNat + (min e (-52) + 1074).toNat = (e + 1074).toNat := by omega
    have a2 : 52 + ((-52 - min e (-52)).toNat + (min e (-52) + 1074).toNat) = 1074 := by omega
    rw [a1, a2]
  have hrep : Rep ((val x).natAbs % TT) := by
    rw [← e1]
    refine rep_of ?_ (by omega)
    by_cases h : e ≤ -52
    · have : min e (-52) = e := by omega
      rw [this]
      have h0 : (e - e).toNat = 0 := by omega
      rw [h0, Nat.pow_zero, Nat.mul_one]
      exact Nat.le_trans (Nat.mod_le _ _) (by omega)
    · have : min e (-52) = -52 := by omega
      rw [this]
      have h0 : (-52 - -52 : Int).toNat = 0 := by decide
      rw [h0, Nat.pow_zero, Nat.mul_one]
      have := Nat.mod_lt (m * 2 ^ (e - -52).toNat) (show 0 < 2 ^ 52 by decide)
      omega
  rw [e1] at hr
  have := right_exact hr Nat.one_pos (by rw [Nat.one_mul]) hrep
  exact this

theorem cmp_val {x y : UInt64} (hx : Fi x) (hy : Fi y) : Float64.cmp x y = some (compare (val x) (val y)) := by
  obtain ⟨a, m, e, hx⟩ := hx
  obtain ⟨b, k, f, hy⟩ := hy
  exact cmp_right hx hy
theorem isZero_val {x : UInt64} (hx : Fi x) : isZero x = decide (val x = 0) := by
  obtain ⟨a, m, e, hx⟩ := hx
  have h1 : isZero x = decide (m = 0) := by
    unfold isZero
    rw [hx]
    cases m <;> simp
  rw [h1, Float64.val_eq hx]
  have hp : (0 : Nat) < 2 ^ (e + 1074).toNat := Nat.two_pow_pos _
  by_cases hm : m = 0
  · subst hm
    simp [sgn]
  · have : sgn a (m * 2 ^ (e + 1074).toNat) ≠ 0 := by
      have h2 : 0 < m * 2 ^ (e + 1074).toNat := Nat.mul_pos (by omega) hp
      generalize m * 2 ^ (e + 1074).toNat = z at *
      unfold sgn
      cases a
      · simp only [Bool.false_eq_true, if_false]; omega
      · simp only [if_true]; omega
    simp [hm, this]
theorem lt_val {x y : UInt64} (hx : Fi x) (hy : Fi y) : Float64.lt x y = decide (val x < val y) := by
  unfold Float64.lt
  rw [cmp_val hx hy]
  rcases Int.lt_trichotomy (val x) (val y) with h | h | h
  · rw [Int.compare_eq_lt.mpr h]; simp [h]
  · rw [h]; simp
  · rw [Int.compare_eq_gt.mpr h]
    have : ¬ val x < val y := by omega
    simp [this]

/-- x % 1.0 -/
theorem mod_one {x : UInt64} (hx : Fi x) :
    (0 ≤ val x → Fi (divmod x one).2 ∧ val (divmod x one).2 = val x % TT) ∧
    (val x < 0 → val x % TT = 0 → (divmod x one).2 = zero false) ∧
    (val x < 0 → val x % TT ≠ 0 → (divmod x one).2 = add (fmod x one) one ∧ Fi (fmod x one) ∧ val (fmod x one) = val x % TT - TT) := by
  obtain ⟨a, m, e, hd⟩ := hx
  have hx : Fi x := ⟨a, m, e, hd⟩
  obtain ⟨hf, hv⟩ := fmod_one hd
  have hz := isZero_val hf
  have h1 : Float64.lt one (zero false) = false := by decide +kernel
  have hlt := lt_val hf (val_zero false).1
  rw [(val_zero false).2] at hlt
  have hcs : copysign (zero false) one = zero false := by decide +kernel
  have hdm : (divmod x one).2 = if val (fmod x one) = 0 then zero false else if val (fmod x one) < 0 then add (fmod x one) one else fmod x one := by
    unfold divmod
    simp only [hz, h1, hlt, hcs]
    by_cases h0 : val (fmod x one) = 0
    · simp [h0]
    · by_cases h2 : val (fmod x one) < 0
      · simp [h0, h2]
      · simp [h0, h2]
  have hT : (0 : Int) < TT := by have := TT_pos; omega
  have hsg : val x = sgn a (val x).natAbs := val_sgn hd
  have ha : 0 < (val x).natAbs → (a = true ↔ val x < 0) := by
    intro hp
    rw [hsg]
    unfold sgn
    cases a
    · simp
    · simp only [if_true, true_iff]; omega
  refine ⟨fun h0 => ?_, fun h0 h2 => ?_, fun h0 h2 => ?_⟩
  · have hmod : val x % TT = (((val x).natAbs % TT : Nat) : Int) := by
      rw [Int.natCast_emod]
      rw [Int.natAbs_of_nonneg h0]
    by_cases hp : val x = 0
    · have e1 : val (fmod x one) = 0 := by
        rw [hv, hp]; simp [sgn]
      rw [hdm, if_pos e1, hp]
      exact ⟨(val_zero false).1, by rw [(val_zero false).2]; simp⟩
    · have hna : a = false := by
        have := ha (by omega)
        cases a
        · rfl
        · exfalso; have := this.mp rfl; omega
      have e1 : val (fmod x one) = val x % TT := by
        rw [hv, hna, hmod]; rfl
      have e2 : 0 ≤ val x % TT := Int.emod_nonneg _ (by omega)
      rw [hdm, e1]
      by_cases h3 : val x % TT = 0
      · rw [if_pos h3, h3]; exact val_zero false
      · rw [if_neg h3, if_neg (by omega)]
        exact ⟨hf, e1⟩
  · have e1 : val (fmod x one) = 0 := by
      rw [hv]
      have : (val x).natAbs % TT = 0 := by
        have h4 : (TT : Int) ∣ val x := Int.dvd_of_emod_eq_zero h2
        have h5 := Int.natAbs_dvd_natAbs.mpr h4
        rw [Int.natAbs_natCast] at h5
        exact Nat.mod_eq_zero_of_dvd h5
      rw [this]; simp [sgn]
    rw [hdm, if_pos e1]
  · have hna : a = true := (ha (by omega)).mpr h0
    have e3 : (((val x).natAbs % TT : Nat) : Int) = TT - val x % TT := by
      rw [Int.natCast_emod]
      have h4 : ((val x).natAbs : Int) = - val x := by omega
      rw [h4]
      have h5 : -val x = (TT - val x % TT) + TT * (-(val x / TT) - 1) := by
        have := Int.mul_ediv_add_emod (val x) TT
        rw [Int.mul_sub, Int.mul_neg]
        omega
      have h6 := Int.emod_nonneg (val x) (show (TT : Int) ≠ 0 by omega)
      have h7 := Int.emod_lt_of_pos (val x) hT
      rw [h5, Int.add_mul_emod_self_left, Int.emod_eq_of_lt (by omega) (by omega)]
    have e1 : val (fmod x one) = val x % TT - TT := by
      rw [hv, hna]
      show -(((val x).natAbs % TT : Nat) : Int) = _
      omega
    have h6 := Int.emod_nonneg (val x) (show (TT : Int) ≠ 0 by omega)
    have h7 := Int.emod_lt_of_pos (val x) hT
    refine ⟨?_, hf, e1⟩
    rw [hdm, e1, if_neg (by omega), if_pos (by omega)]

/-- .. of few places -/
theorem Is.mod_one {x : UInt64} {n : Int} {e : Nat} (h : Is x n e) (he : e ≤ 1074) (hn : 0 ≤ n ∨ n % 2 ^ e ≤ 2 ^ 53) : Is (divmod x one).2 (n % 2 ^ e) e := by
  have hp := pow_pos_int e
  have hT : (0 : Int) < TT := by have := TT_pos; omega
  have hmod : (val x % TT) * 2 ^ e = (n % 2 ^ e) * TT := by
    rw [Int.mul_comm, ← Int.mul_emod_mul_of_pos _ _ hp, Int.mul_comm _ (val x), h.eq, Int.mul_comm (n % 2 ^ e), ← Int.mul_emod_mul_of_pos _ _ hT, Int.mul_comm (TT : Int) n, Int.mul_comm (TT : Int) (2 ^ e)]
  obtain ⟨m1, m2, m3⟩ := Mine.mod_one h.fi
  rcases Int.lt_or_le (val x) 0 with h0 | h0
  · by_cases h2 : val x % TT = 0
    · rw [m2 h0 h2]
      refine ⟨(val_zero false).1, ?_⟩
      rw [(val_zero false).2, ← hmod, h2]
    · obtain ⟨e1, e2, e3⟩ := m3 h0 h2
      have hneg : n < 0 := by
        rcases Int.lt_or_le n 0 with hl | hl
        · exact hl
        · have h4 := Int.mul_nonneg hl (Int.le_of_lt hT)
          have h5 := Int.mul_neg_of_neg_of_pos h0 hp
          have := h.eq
          omega
      have hn' : n % 2 ^ e ≤ 2 ^ 53 := by omega
      have h8 := Int.emod_nonneg n (Int.ne_of_gt hp)
      have e4 : (val (fmod x one) + val one) * 2 ^ e = (n % 2 ^ e) * TT := by
        rw [e3, one_is.2, Int.sub_add_cancel, hmod]
      have := add_exact e2 one_is.1 (rep_few e4 (by omega) he)
      rw [e1]
      exact ⟨this.1, by rw [this.2]; exact e4⟩
  · obtain ⟨e1, e2⟩ := m1 h0
    exact ⟨e1, by rw [e2]; exact hmod⟩

/-- a float's value by its parts -/
theorem Is.of_decode {x : UInt64} {a : Bool} {m : Nat} {ex : Int} (hx : decode x = .fin a m ex) (e : Nat) (he : ex = -(e : Int)) (he' : e ≤ 1074) : Is x (sgn a m) e := by
  refine ⟨⟨a, m, ex, hx⟩, ?_⟩
  have h1 : (ex + 1074).toNat = 1074 - e := by omega
  rw [Float64.val_eq hx, h1, sgn_mul, Int.natCast_pow, Int.mul_assoc, TT_eq e he', Int.natCast_mul, Int.natCast_pow, Int.natCast_pow]; rfl

theorem right_fi {r : UInt64} {neg : Bool} {W D Z : Nat} (h : Right r neg W D) (hD : 0 < D) (hW : W ≤ D * Z) (hz : Rep Z) : Fi r ∧ (val r).natAbs ≤ Z := by
  obtain ⟨t, rfl, ht, hov, hn⟩ := h
  obtain ⟨t₀, ht₀, hV⟩ := hz
  have hlt : t < infMag := by
    rcases Nat.lt_or_eq_of_le ht with h | h
    · exact h
    · exfalso
      have h1 := hov.mp h
      have hB : V t₀ ≤ V (infMag - 1) := V_mono (by omega)
      have hA : V (infMag - 1) = (2 ^ 53 - 1) * 2 ^ 2045 := by
        have e : infMag - 1 = 2045 * 2 ^ 52 + (2 ^ 53 - 1) := by unfold infMag; omega
        rw [e]
        exact V_at (k := 2045) (q := 2 ^ 53 - 1) (by omega) (.inl (by omega))
      rw [← hV] at hW
      have h2 : D * V t₀ ≤ D * ((2 ^ 53 - 1) * 2 ^ 2045) := Nat.mul_le_mul_left D (by omega)
      have h3 : (0 : Nat) < 2 ^ 2045 := Nat.two_pow_pos _
      generalize (2 : Nat) ^ 2045 = Y at *
      have h4 : D * ((2 ^ 54 - 1) * Y) = 2 * (D * ((2 ^ 53 - 1) * Y)) + D * Y := by
        have : (2 ^ 54 - 1) * Y = 2 * ((2 ^ 53 - 1) * Y) + Y := by omega
        rw [this, Nat.mul_add, Nat.mul_left_comm]
      have h5 : 0 < D * Y := Nat.mul_pos hD h3
      omega
  obtain ⟨h1, h2⟩ := fi_pack (s := neg) hlt
  refine ⟨h1, ?_⟩
  rw [h2, sgn_natAbs]
  have hd := (hn hlt t₀).1
  rw [hV] at hd
  rcases Nat.lt_or_ge Z (V t) with h3 | h3
  · exfalso
    have h4 : D * Z < D * V t := Nat.mul_lt_mul_of_pos_left h3 hD
    unfold dist at hd
    omega
  · exact h3

theorem mul_fi {x y : UInt64} {Z : Nat} (hx : Fi x) (hy : Fi y) (hW : (val x).natAbs * (val y).natAbs ≤ TT * Z) (hz : Rep Z) : Fi (mul x y) ∧ (val (mul x y)).natAbs ≤ Z := by
  obtain ⟨a, m, e, hx⟩ := hx
  obtain ⟨b, k, f, hy⟩ := hy
  exact right_fi (mul_right hx hy) TT_pos hW hz
theorem add_fi {x y : UInt64} {Z : Nat} (hx : Fi x) (hy : Fi y) (hW : (val x + val y).natAbs ≤ Z) (hz : Rep Z) : Fi (add x y) ∧ (val (add x y)).natAbs ≤ Z := by
  obtain ⟨a, m, e, hx⟩ := hx
  obtain ⟨b, k, f, hy⟩ := hy
  have h := add_right hx hy
  by_cases h0 : val x + val y = 0
  · rw [h.1 h0]
    exact ⟨(val_zero _).1, by rw [(val_zero _).2]; exact Nat.zero_le _⟩
  · exact right_fi (h.2 h0) Nat.one_pos (by omega) hz

theorem fi_pack_of {x : UInt64} (hx : Fi x) : ∃ s t, t < infMag ∧ x = pack s t := by
  obtain ⟨a, m, e, hd⟩ := hx
  have hlt := x.toNat_lt
  refine ⟨x.toNat / 2 ^ 63 == 1, x.toNat % 2 ^ 63, ?_, ?_⟩
  · have hi : infMag = 2047 * 2 ^ 52 := rfl
    have hne : x.toNat / 2 ^ 52 % 2048 ≠ 2047 := by
      intro h
      unfold decode at hd
      simp only [h, beq_self_eq_true, if_true] at hd
      split at hd <;> cases hd
    omega
  · apply UInt64.toNat_inj.mp
    rw [pack_toNat _ (by omega)]
    have : x.toNat / 2 ^ 63 = 0 ∨ x.toNat / 2 ^ 63 = 1 := by omega
    rcases this with h | h <;> simp [h] <;> omega
theorem eq_of_val {x y : UInt64} (hx : Fi x) (hy : Fi y) (h : val x = val y) (h0 : val x ≠ 0) : x = y := by
  obtain ⟨s, t, ht, rfl⟩ := fi_pack_of hx
  obtain ⟨s', t', ht', rfl⟩ := fi_pack_of hy
  rw [val_pack _ ht, val_pack _ ht'] at h
  rw [val_pack _ ht] at h0
  have e1 : V t = V t' := by
    have := congrArg Int.natAbs h
    rwa [sgn_natAbs, sgn_natAbs] at this
  have e2 : t = t' := V_inj e1
  subst e2
  have e3 : s = s' := by
    unfold sgn at h h0
    cases s <;> cases s' <;> simp at h h0 ⊢ <;> omega
  rw [e3]
theorem cmp_self {x : UInt64} (hx : Fi x) : Float64.cmp x x = some .eq := by
  rw [cmp_val hx hx]; simp

theorem Is.abs_le {x : UInt64} {n : Int} {e : Nat} (h : Is x n e) (k : Nat) (hn : n.natAbs ≤ k * 2 ^ e) : (val x).natAbs ≤ k * TT := by
  have h1 := congrArg Int.natAbs h.eq
  rw [Int.natAbs_mul, Int.natAbs_mul, Int.natAbs_pow, Int.natAbs_natCast] at h1
  have h2 : n.natAbs * TT ≤ k * 2 ^ e * TT := Nat.mul_le_mul_right _ hn
  have hp : 0 < 2 ^ e := Nat.two_pow_pos e
  refine Nat.le_of_mul_le_mul_right (c := 2 ^ e) ?_ hp
  calc (val x).natAbs * 2 ^ e = n.natAbs * TT := h1
    _ ≤ k * 2 ^ e * TT := h2
    _ = k * TT * 2 ^ e := by ac_rfl
theorem rep_TT {k : Nat} (hk : k ≤ 2 ^ 53) : Rep (k * TT) := rep_of hk (by decide)
end Mine
namespace Mine
open PySem PySem.W PySem.Float64

def vF (x y z : UInt64) : UInt64 :=
  if fcmp .Lt (Float64.cmp (divmod z one).2 4595172819793696085) = true then add x (mul (mul (sub y x) (divmod z one).2) 4618441417868443648)
  else if fcmp .Lt (Float64.cmp (divmod z one).2 4602678819172646912) = true then y
  else if fcmp .Lt (Float64.cmp (divmod z one).2 4604180019048437077) = true then add x (mul (mul (sub y x) (sub 4604180019048437077 (divmod z one).2)) 4618441417868443648)
  else x

theorem c_s6 : Is 4595172819793696085 6004799503160661 55 := Is.of_decode (a := false) (m := 6004799503160661) (ex := -55) (by kernel_rfl) 55 rfl (by decide)
theorem c_t3 : Is 4604180019048437077 6004799503160661 53 := Is.of_decode (a := false) (m := 6004799503160661) (ex := -53) (by kernel_rfl) 53 rfl (by decide)
theorem c_half : Is 4602678819172646912 (2 ^ 54) 55 := by
  have := (Is.of_decode (x := 4602678819172646912) (a := false) (m := 2 ^ 52) (ex := -53) (by kernel_rfl) 53 rfl (by decide)).up 2
  exact this
theorem c_six : Is 4618441417868443648 6 0 := by
  have := Is.of_decode (x := 4618441417868443648) (a := false) (m := 6 * 2 ^ 50) (ex := -50) (by kernel_rfl) 50 rfl (by decide)
  exact Is.down (k := 50) (e := 0) this
theorem c_div23 : divII 2 3 = 4604180019048437077 := by decide +kernel

theorem lt_of_Is {x y : UInt64} {n m : Int} {e : Nat} (h : Is x n e) (k : Is y m e) : fcmp .Lt (Float64.cmp x y) = decide (n < m) := by
  rw [h.cmp k]
  unfold fcmp
  rcases Int.lt_trichotomy n m with h | h | h
  · rw [Int.compare_eq_lt.mpr h]; simp [h]
  · subst h; simp
  · rw [Int.compare_eq_gt.mpr h]
    have : ¬ n < m := by omega
    simp [this]
theorem ne_of_Is {x y : UInt64} {n : Int} {e : Nat} (h : Is x n e) (k : Is y n e) : fcmp .NotEq (Float64.cmp x y) = false := by
  rw [h.cmp k]
  simp [fcmp]

theorem v_cases {x y z : UInt64} {u : Int} (h : Is (divmod z one).2 u 55) : vF x y z =
    if u < 6004799503160661 then add x (mul (mul (sub y x) (divmod z one).2) 4618441417868443648)
    else if u < 2 ^ 54 then y
    else if u < 4 * 6004799503160661 then add x (mul (mul (sub y x) (sub 4604180019048437077 (divmod z one).2)) 4618441417868443648)
    else x := by
  unfold vF
  have h3 : Is 4604180019048437077 (4 * 6004799503160661) 55 := by
    have := c_t3.up 2
    rw [show (6004799503160661 : Int) * 2 ^ 2 = 4 * 6004799503160661 by decide] at this
    exact this
  rw [lt_of_Is h c_s6, lt_of_Is h c_half, lt_of_Is h h3]
  simp only [decide_eq_true_eq]

/-- the rising line -/
theorem line_is {A B : Nat} (hA : A + B = 48) {one two place : Int} {m1 m2 h : UInt64} (i1 : Is m1 one B) (i2 : Is m2 two B) (ih : Is h place A) (h1 : 0 ≤ one ∧ one ≤ 2 ^ B) (h2 : 0 ≤ two ∧ two ≤ 2 ^ B) (hp : 0 ≤ place ∧ place ≤ 2 ^ A) :
    Is (add m1 (mul (mul (sub m2 m1) h) 4618441417868443648)) (one * 2 ^ A + (two - one) * place * 6) 48 := by
  have pA : (0 : Int) < 2 ^ A := pow_pos_int A
  have pB : (0 : Int) < 2 ^ B := pow_pos_int B
  have pAB : (2 : Int) ^ B * 2 ^ A = 2 ^ 48 := by rw [← Int.pow_add, Nat.add_comm, hA]
  have bB : (2 : Int) ^ B ≤ 2 ^ 48 := by
    have : 2 ^ B ≤ 2 ^ 48 := Nat.pow_le_pow_right (by decide) (by omega)
    exact_mod_cast this
  have d1 := i2.sub i1 (by omega) (by omega)
  have b1 : ((two - one) * place).natAbs ≤ 2 ^ 48 := by
    rw [Int.natAbs_mul]
    have e1 : (two - one).natAbs ≤ 2 ^ B := by
      have : (two - one).natAbs ≤ ((2 : Int) ^ B).natAbs := by omega
      rwa [Int.natAbs_pow] at this
    have e2 : place.natAbs ≤ 2 ^ A := by
      have : place.natAbs ≤ ((2 : Int) ^ A).natAbs := by omega
      rwa [Int.natAbs_pow] at this
    calc (two - one).natAbs * place.natAbs ≤ 2 ^ B * 2 ^ A := Nat.mul_le_mul e1 e2
      _ = 2 ^ 48 := by rw [← Nat.pow_add, Nat.add_comm, hA]
  have d2 := d1.mul ih (by omega) (by omega)
  rw [show B + A = 48 by omega] at d2
  have d3 := d2.mul c_six (by omega) (by omega)
  have d4 := i1.up A
  rw [show B + A = 48 by omega] at d4
  have b2 : 0 ≤ one * 2 ^ A ∧ one * 2 ^ A ≤ 2 ^ 48 := by
    refine ⟨Int.mul_nonneg h1.1 (Int.le_of_lt pA), ?_⟩
    rw [← pAB]
    exact Int.mul_le_mul_of_nonneg_right h1.2 (Int.le_of_lt pA)
  generalize (two - one) * place = w at *
  exact d4.add d3 (by omega) (by omega)

theorem math01 {A B : Nat} (hA : A + B = 48) {parts place one two far climb : Int} (hparts : -2 ^ 51 ≤ parts ∧ parts < 2 ^ 51) (hpl : parts % 2 ^ A = place) (h1 : 0 ≤ one ∧ one ≤ 2 ^ B) (h2 : 0 ≤ two ∧ two ≤ 2 ^ B)
    (hfar : (if 3 * place - 2 ^ A < 0 then -(3 * place - 2 ^ A) else 3 * place - 2 ^ A) = far)
    (hcl : (if 2 ^ A < (if 0 > 2 * 2 ^ A - 2 * far then 0 else 2 * 2 ^ A - 2 * far) then 2 ^ A else if 0 > 2 * 2 ^ A - 2 * far then 0 else 2 * 2 ^ A - 2 * far) = climb) :
    (fcmp .NotEq (cmp (vF (divII one (2 ^ B)) (divII two (2 ^ B)) (divII parts (2 ^ A))) (divII (one * 2 ^ A + (two - one) * climb) (2 ^ 48))) = true → ¬ (2 * place < 2 ^ A ∨ 3 * place > 2 * 2 ^ A)) ∧
    fcmp .NotEq (cmp (vF (divII one (2 ^ B)) (divII two (2 ^ B)) (sub (divII 2 3) (divII place (2 ^ A)))) (vF (divII one (2 ^ B)) (divII two (2 ^ B)) (divII parts (2 ^ A)))) = false := by
  have pA : (0 : Int) < 2 ^ A := pow_pos_int A
  have pB : (0 : Int) < 2 ^ B := pow_pos_int B
  have pAB : (2 : Int) ^ B * 2 ^ A = 2 ^ 48 := by rw [← Int.pow_add, Nat.add_comm, hA]
  have bB : (2 : Int) ^ B ≤ 2 ^ 48 := by
    have : 2 ^ B ≤ 2 ^ 48 := Nat.pow_le_pow_right (by decide) (by omega)
    exact_mod_cast this
  have bA : (2 : Int) ^ A ≤ 2 ^ 48 := by
    have : 2 ^ A ≤ 2 ^ 48 := Nat.pow_le_pow_right (by decide) (by omega)
    exact_mod_cast this
  have hp0 : 0 ≤ place := by rw [← hpl]; exact Int.emod_nonneg parts (Int.ne_of_gt pA)
  have hp1 : place < 2 ^ A := by rw [← hpl]; exact Int.emod_lt_of_pos parts pA
  have i1 : Is (divII one (2 ^ B)) one B := Is.div pB rfl (by omega) (by omega)
  have i2 : Is (divII two (2 ^ B)) two B := Is.div pB rfl (by omega) (by omega)
  have ix : Is (divII parts (2 ^ A)) parts A := Is.div pA rfl (by omega) (by omega)
  have ip : Is (divII place (2 ^ A)) place A := Is.div pA rfl (by omega) (by omega)
  have ih := ix.mod_one (by omega) (.inr (by rw [hpl]; omega))
  rw [hpl] at ih
  -- in 2 ^ 55ths
  obtain ⟨D, hD, hD1⟩ : ∃ D : Nat, A + D = 55 ∧ 7 ≤ D := ⟨55 - A, by omega, by omega⟩
  have ihD := ih.up D
  rw [hD] at ihD
  have pTD : (2 : Int) ^ A * 2 ^ D = 2 ^ 55 := by rw [← Int.pow_add, hD]
  have pD : (128 : Int) ≤ 2 ^ D := by
    have : 2 ^ 7 ≤ 2 ^ D := Nat.pow_le_pow_right (by decide) (by omega)
    exact_mod_cast this
  have not3 : ∀ n : Nat, ¬ (3 : Int) ∣ 2 ^ n := by
    intro n h
    have h' : (3 : Nat) ∣ 2 ^ n := by exact_mod_cast h
    have : 2 ^ n % 3 = 1 ∨ 2 ^ n % 3 = 2 := by
      clear h h'
      induction n with
      | zero => left; rfl
      | succ n ih => rw [Nat.pow_succ]; omega
    omega
  have ne6 : 6 * place ≠ 2 ^ A := fun h => not3 A ⟨2 * place, by omega⟩
  have ne3 : 3 * place ≠ 2 * 2 ^ A := fun h => not3 (A + 1) ⟨place, by rw [Int.pow_succ]; omega⟩
  have mulD : ∀ {a b : Int}, a ≤ b → a * 2 ^ D ≤ b * 2 ^ D := fun h => Int.mul_le_mul_of_nonneg_right h (by omega)
  have U0 : 0 ≤ place * 2 ^ D := Int.mul_nonneg hp0 (by omega)
  have Umax : place * 2 ^ D + 2 ^ D ≤ 2 ^ 55 := by
    have := mulD (show place + 1 ≤ 2 ^ A by omega)
    rw [pTD, Int.add_mul] at this
    omega
  have k6 : (6 * place < 2 ^ A → 6 * (place * 2 ^ D) + 2 ^ D ≤ 2 ^ 55) ∧ (2 ^ A ≤ 6 * place → 2 ^ 55 + 2 ^ D ≤ 6 * (place * 2 ^ D)) := by
    constructor
    · intro h
      have := mulD (show 6 * place + 1 ≤ 2 ^ A by omega)
      rw [pTD, Int.add_mul, Int.mul_assoc] at this
      omega
    · intro h
      have := mulD (show 2 ^ A + 1 ≤ 6 * place by omega)
      rw [Int.add_mul, pTD, Int.mul_assoc] at this
      omega
  have k2 : (2 * place < 2 ^ A → 2 * (place * 2 ^ D) + 2 ^ D ≤ 2 ^ 55) ∧ (2 ^ A ≤ 2 * place → 2 ^ 55 ≤ 2 * (place * 2 ^ D)) := by
    constructor
    · intro h
      have := mulD (show 2 * place + 1 ≤ 2 ^ A by omega)
      rw [pTD, Int.add_mul, Int.mul_assoc] at this
      omega
    · intro h
      have := mulD h
      rw [pTD, Int.mul_assoc] at this
      omega
  have k3 : (3 * place < 2 * 2 ^ A → 3 * (place * 2 ^ D) + 2 ^ D ≤ 2 ^ 56) ∧ (2 * 2 ^ A ≤ 3 * place → 2 ^ 56 + 2 ^ D ≤ 3 * (place * 2 ^ D)) := by
    constructor
    · intro h
      have := mulD (show 3 * place + 1 ≤ 2 * 2 ^ A by omega)
      rw [Int.add_mul, Int.mul_assoc, Int.mul_assoc, pTD] at this
      omega
    · intro h
      have := mulD (show 2 * 2 ^ A + 1 ≤ 3 * place by omega)
      rw [Int.add_mul, Int.mul_assoc, Int.mul_assoc, pTD] at this
      omega
  have up1 : Is (divII one (2 ^ B)) (one * 2 ^ A) 48 := by have := i1.up A; rwa [show B + A = 48 by omega] at this
  have up2 : Is (divII two (2 ^ B)) (two * 2 ^ A) 48 := by have := i2.up A; rwa [show B + A = 48 by omega] at this
  have line := line_is hA i1 i2 ih h1 h2 ⟨hp0, by omega⟩
  -- what is due
  have hcl' : 0 ≤ climb ∧ climb ≤ 2 ^ A := by (repeat' split at hcl) <;> omega
  have hN : 0 ≤ one * 2 ^ A + (two - one) * climb ∧ one * 2 ^ A + (two - one) * climb ≤ 2 ^ 48 := by
    have e : one * 2 ^ A + (two - one) * climb = one * (2 ^ A - climb) + two * climb := by
      rw [Int.sub_mul, Int.mul_sub]; omega
    rw [e]
    have a1 := Int.mul_nonneg h1.1 (show 0 ≤ 2 ^ A - climb by omega)
    have a2 := Int.mul_nonneg h2.1 hcl'.1
    have a3 := Int.mul_le_mul_of_nonneg_right h1.2 (show 0 ≤ 2 ^ A - climb by omega)
    have a4 := Int.mul_le_mul_of_nonneg_right h2.2 hcl'.1
    have a5 : (2 : Int) ^ B * 2 ^ A = 2 ^ B * (2 ^ A - climb) + 2 ^ B * climb := by rw [Int.mul_sub]; omega
    omega
  have idue : Is (divII (one * 2 ^ A + (two - one) * climb) (2 ^ 48)) (one * 2 ^ A + (two - one) * climb) 48 := Is.div (by decide) rfl (by omega) (by omega)
  -- the mirrored hue
  obtain ⟨E, hE, hE2⟩ : ∃ E : Nat, A + E = 53 ∧ D = E + 2 := ⟨53 - A, by omega, by omega⟩
  have ipE := ip.up E
  rw [hE] at ipE
  have hU : place * 2 ^ D = 4 * (place * 2 ^ E) := by
    rw [hE2, Int.pow_add, ← Int.mul_assoc]
    generalize place * 2 ^ E = q
    omega
  have iz := c_t3.sub ipE (by omega) (by omega)
  rw [← c_div23] at iz
  have ih' := iz.mod_one (by omega) (.inr (by have := Int.emod_lt_of_pos (6004799503160661 - place * 2 ^ E) (pow_pos_int 53); omega))
  have ihU := ih'.up 2
  have hv := v_cases (x := divII one (2 ^ B)) (y := divII two (2 ^ B)) ihD
  have hv' := v_cases (x := divII one (2 ^ B)) (y := divII two (2 ^ B)) ihU
  generalize hVv : place * 2 ^ E = Vv at *
  generalize hUu : place * 2 ^ D = U at *
  generalize hz' : sub (divII 2 3) (divII place (2 ^ A)) = z' at *
  have hmod : (Vv ≤ 6004799503160661 → (6004799503160661 - Vv) % 2 ^ 53 = 6004799503160661 - Vv) ∧ (6004799503160661 < Vv → (6004799503160661 - Vv) % 2 ^ 53 = 6004799503160661 - Vv + 2 ^ 53) := by
    constructor <;> intro h <;> omega
  rw [hv, hv']
  by_cases c6 : 6 * place < 2 ^ A
  · have e1 : U < 6004799503160661 := by have := k6.1 c6; omega
    rw [if_pos e1]
    have hclimb : climb = 6 * place := by (repeat' split at hfar) <;> (repeat' split at hcl) <;> omega
    have hN' : one * 2 ^ A + (two - one) * climb = one * 2 ^ A + (two - one) * place * 6 := by rw [hclimb, Int.mul_comm 6, ← Int.mul_assoc]
    refine ⟨fun hne => ?_, ?_⟩
    · rw [hN'] at idue
      rw [hN', ne_of_Is line idue] at hne
      cases hne
    · have h6 := k6.1 c6
      have hm := hmod.1 (by omega)
      rw [hm] at ih' ihU ⊢
      rw [if_neg (by omega), if_neg (by omega)]
      by_cases hp : place = 0
      · subst hp
        rw [if_neg (by omega)]
        refine ne_of_Is up1 ?_
        have := line
        rw [Int.mul_zero, Int.zero_mul, Int.add_zero] at this
        exact this
      · have hpos : 0 < U := by rw [← hUu]; exact Int.mul_pos (by omega) (by omega)
        rw [if_pos (by omega)]
        have d := c_t3.sub ih' (by omega) (by omega)
        rw [show 6004799503160661 - (6004799503160661 - Vv) = Vv by omega, ← hVv, ← hE] at d
        have d' : Is (Float64.sub 4604180019048437077 (divmod z' Float64.one).2) place A := Is.down d
        exact ne_of_Is (line_is hA i1 i2 d' h1 h2 ⟨hp0, by omega⟩) line
  · have h6 := k6.2 (by omega)
    rw [if_neg (by omega)]
    by_cases c2 : 2 * place < 2 ^ A
    · have h2' := k2.1 c2
      rw [if_pos (by omega)]
      have hclimb : climb = 2 ^ A := by (repeat' split at hfar) <;> (repeat' split at hcl) <;> omega
      have hN' : one * 2 ^ A + (two - one) * climb = two * 2 ^ A := by rw [hclimb, Int.sub_mul]; omega
      refine ⟨fun hne => ?_, ?_⟩
      · rw [hN'] at idue
        rw [hN', ne_of_Is up2 idue] at hne
        cases hne
      · have hm := hmod.1 (by omega)
        rw [hm] at ih' ihU ⊢
        rw [if_neg (by omega), if_pos (by omega)]
        exact ne_of_Is up2 up2
    · have h2' := k2.2 (by omega)
      rw [if_neg (by omega)]
      by_cases c3 : 3 * place < 2 * 2 ^ A
      · have h3' := k3.1 c3
        rw [if_pos (by omega)]
        refine ⟨fun _ => by omega, ?_⟩
        have hm := hmod.1 (by omega)
        rw [hm] at ih' ihU ⊢
        rw [if_pos (by omega)]
        -- the very same float
        have d := c_t3.sub (show Is (divmod (divII parts (2 ^ A)) Float64.one).2 Vv 53 by have := ih.up E; rw [hE, hVv] at this; exact this) (by omega) (by omega)
        have same : (divmod z' Float64.one).2 = Float64.sub 4604180019048437077 (divmod (divII parts (2 ^ A)) Float64.one).2 := by
          refine eq_of_val ih'.fi d.fi (ih'.val_eq d) ?_
          intro h0
          have := ih'.eq
          rw [h0, Int.zero_mul] at this
          have hT : (0 : Int) < TT := by have := TT_pos; omega
          have := Int.mul_pos (show 0 < 6004799503160661 - Vv by omega) hT
          omega
        rw [← same]
        have fin : Fi (add (divII one (2 ^ B)) (mul (mul (Float64.sub (divII two (2 ^ B)) (divII one (2 ^ B))) (divmod z' Float64.one).2) 4618441417868443648)) := by
          have q1 := i2.sub i1 (by omega) (by omega)
          have nB : ((2 : Int) ^ B).natAbs = 2 ^ B := by rw [Int.natAbs_pow]; rfl
          have a1 := q1.abs_le 1 (by omega)
          have a2 := ih'.abs_le 1 (by omega)
          have q2 := mul_fi (Z := 1 * TT) q1.fi ih'.fi (by rw [Nat.one_mul] at *; exact Nat.mul_le_mul a1 a2) (rep_TT (by decide))
          have a3 := c_six.abs_le 6 (by decide)
          have q3 := mul_fi (Z := 6 * TT) q2.1 c_six.fi (by
            have := Nat.mul_le_mul q2.2 a3
            rw [Nat.one_mul] at this
            exact this) (rep_TT (by decide))
          have a4 := i1.abs_le 1 (by omega)
          exact (add_fi (Z := 7 * TT) i1.fi q3.1 (by have := q3.2; omega) (rep_TT (by decide))).1
        rw [cmp_self fin]
        rfl
      · have h3' := k3.2 (by omega)
        rw [if_neg (by omega)]
        have hclimb : climb = 0 := by (repeat' split at hfar) <;> (repeat' split at hcl) <;> omega
        have hN' : one * 2 ^ A + (two - one) * climb = one * 2 ^ A := by rw [hclimb, Int.mul_zero, Int.add_zero]
        refine ⟨fun hne => ?_, ?_⟩
        · rw [hN'] at idue
          rw [hN', ne_of_Is up1 idue] at hne
          cases hne
        · have hm := hmod.2 (by omega)
          rw [hm] at ih' ihU ⊢
          rw [if_neg (by omega), if_neg (by omega), if_neg (by omega)]
          exact ne_of_Is up1 up1
end Mine
namespace Mine
open PySem PySem.W PySem.Calls PyProof.Rows
def K_law : Keys := ⟨["script", "first", "a", "b", "turn", "cells", "k", "start", "one", "two", "twelfth", "parts", "place", "far", "climb", "due", "told"], ["range", "len", "abs", "min", "max", "_v"]⟩
def B_law_1 : PSs := .cons (.assign (.name 11) (.bin .Add (.loc 7) (.bin .FloorDiv (.bin .Mult (.loc 10) (.loc 4)) (.const (.int 12)))))
  (.cons (.assign (.name 12) (.bin .Mod (.loc 11) (.loc 4)))
  (.cons (.assign (.name 13) (.call (.glob 2) (.cons (.bin .Sub (.bin .Mult (.const (.int 3)) (.loc 12)) (.loc 4)) (.nil))))
  (.cons (.assign (.name 14) (.call (.glob 3) (.cons (.call (.glob 4) (.cons (.bin .Sub (.bin .Mult (.const (.int 2)) (.loc 4)) (.bin .Mult (.const (.int 2)) (.loc 13))) (.cons (.const (.int 0)) (.nil)))) (.cons (.loc 4) (.nil)))))
  (.cons (.assign (.name 15) (.bin .Div (.bin .Add (.bin .Mult (.loc 8) (.loc 4)) (.bin .Mult (.bin .Sub (.loc 9) (.loc 8)) (.loc 14))) (.bin .Pow (.const (.int 2)) (.const (.int 48)))))
  (.cons (.assign (.name 16) (.call (.glob 5) (.cons (.bin .Div (.loc 8) (.bin .Pow (.const (.int 2)) (.loc 3))) (.cons (.bin .Div (.loc 9) (.bin .Pow (.const (.int 2)) (.loc 3))) (.cons (.bin .Div (.loc 11) (.loc 4)) (.nil))))))
  (.cons (.ifs (.bools true (.cons (.cmp .NotEq (.loc 16) (.loc 15)) (.cons (.bools false (.cons (.cmp .Lt (.bin .Mult (.const (.int 2)) (.loc 12)) (.loc 4)) (.cons (.cmp .Gt (.bin .Mult (.const (.int 3)) (.loc 12)) (.bin .Mult (.const (.int 2)) (.loc 4))) (.nil)))) (.nil)))) (.cons (.ret (.const (.bool false)))
  (.nil)) (.nil))
  (.cons (.ifs (.cmp .NotEq (.call (.glob 5) (.cons (.bin .Div (.loc 8) (.bin .Pow (.const (.int 2)) (.loc 3))) (.cons (.bin .Div (.loc 9) (.bin .Pow (.const (.int 2)) (.loc 3))) (.cons (.bin .Sub (.bin .Div (.const (.int 2)) (.const (.int 3))) (.bin .Div (.loc 12) (.loc 4))) (.nil))))) (.loc 16)) (.cons (.ret (.const (.bool false)))
  (.nil)) (.nil))
  (.nil))))))))
def B_law_2 : PSs := .cons (.assign (.name 7) (.bin .Sub (.bin .Mod (.bin .Add (.sub (.loc 5) (.loc 6)) (.bin .Pow (.const (.int 2)) (.const (.int 50)))) (.bin .Pow (.const (.int 2)) (.const (.int 51)))) (.bin .Pow (.const (.int 2)) (.const (.int 50)))))
  (.cons (.assign (.name 8) (.bin .Mod (.sub (.loc 5) (.bin .Add (.loc 6) (.const (.int 1)))) (.bin .Add (.bin .Pow (.const (.int 2)) (.loc 3)) (.const (.int 1)))))
  (.cons (.assign (.name 9) (.bin .Mod (.bin .Sub (.bin .Pow (.const (.int 2)) (.loc 3)) (.sub (.loc 5) (.bin .Add (.loc 6) (.const (.int 2))))) (.bin .Add (.bin .Pow (.const (.int 2)) (.loc 3)) (.const (.int 1)))))
  (.cons (.for_ (.name 10) (.call (.glob 0) (.cons (.const (.int 12)) (.nil))) B_law_1)
  (.nil))))
def B_law : PSs := .cons (.assign (.name 0) (.slTo (.loc 0) (.const (.int 63))))
  (.cons (.assign (.name 1) (.ite (.cmp .NotEq (.loc 0) (.list (.nil))) (.sub (.loc 0) (.const (.int 0))) (.const (.int 0))))
  (.cons (.assign (.name 2) (.bin .Mod (.bin .Add (.const (.int 24)) (.loc 1)) (.const (.int 49))))
  (.cons (.assign (.name 3) (.bin .Sub (.const (.int 48)) (.loc 2)))
  (.cons (.assign (.name 4) (.bin .Pow (.const (.int 2)) (.loc 2)))
  (.cons (.assign (.name 5) (.bin .Add (.bin .Add (.list (.cons (.neg (.const (.int 1))) (.cons (.const (.int 0)) (.cons (.const (.int 0)) (.cons (.const (.int 12345)) (.cons (.const (.int 23458)) (.cons (.const (.int 34570)) (.nil)))))))) (.slFrom (.loc 0) (.const (.int 1)))) (.list (.cons (.const (.int 0)) (.cons (.const (.int 0)) (.nil))))))
  (.cons (.for_ (.name 6) (.call (.glob 0) (.cons (.const (.int 0)) (.cons (.bin .Sub (.call (.glob 1) (.cons (.loc 5) (.nil))) (.const (.int 2))) (.cons (.const (.int 3)) (.nil))))) B_law_2)
  (.cons (.ret (.const (.bool true)))
  (.nil))))))))
def K_v : Keys := ⟨["m1", "m2", "hue"], ["ONE_SIXTH", "TWO_THIRD"]⟩
def B_v : PSs := .cons (.assign (.name 2) (.bin .Mod (.loc 2) (.const (.float 0x3ff0000000000000))))
  (.cons (.ifs (.cmp .Lt (.loc 2) (.glob 0)) (.cons (.ret (.bin .Add (.loc 0) (.bin .Mult (.bin .Mult (.bin .Sub (.loc 1) (.loc 0)) (.loc 2)) (.const (.float 0x4018000000000000)))))
  (.nil)) (.nil))
  (.cons (.ifs (.cmp .Lt (.loc 2) (.const (.float 0x3fe0000000000000))) (.cons (.ret (.loc 1))
  (.nil)) (.nil))
  (.cons (.ifs (.cmp .Lt (.loc 2) (.glob 1)) (.cons (.ret (.bin .Add (.loc 0) (.bin .Mult (.bin .Mult (.bin .Sub (.loc 1) (.loc 0)) (.bin .Sub (.glob 1) (.loc 2))) (.const (.float 0x4018000000000000)))))
  (.nil)) (.nil))
  (.cons (.ret (.loc 0))
  (.nil)))))

def gv_v : Nat → Option AV := fun j => [AV.float 4595172819793696085, .float 4604180019048437077][j]?
def gv_law : Nat → Option AV := fun j => [AV.typ .range, .bi .len, .bi .abs, .bi .min, .bi .max, .fn 0][j]?
def fns01 : Fns := fun k args objs Q => k = 0 ∧ fnW gv_v noFns 3 B_v args objs Q
theorem some_v : ((recsOf hd01.view_39).find? (fun e => e.name == ("_v" : Str))).isSome = true := by decide +kernel
noncomputable def dv : DefRec := ((recsOf hd01.view_39).find? (fun e => e.name == ("_v" : Str))).get some_v
theorem dv_name : dv.name = "_v" := by decide +kernel

theorem def_v (P : PF) (hp : P.p = hd01.view_39) : DefIs P dv 3 K_v B_v where
  mem := by rw [hp]; exact List.mem_of_find?_eq_some (Option.some_get some_v).symm
  body := by decide +kernel
  nodup := by decide +kernel
  params := by
    intro vals hv pm cdv doc
    match vals, hv with
    | [a, b, c], _ => kernel_rfl
  np := by decide
  locs := by decide +kernel
  globs := by decide +kernel
  kind := by decide +kernel
  gen := by decide +kernel
  co := by decide +kernel
  cell := by decide +kernel

/-- the facts of the top that the law's frames lean on -/
structure Facts (P : PF) (fa : FA) (h : Heap) : Prop where
  gv : GOK P fa K_v.globs gv_v
  gl : GOK P fa K_law.globs gv_law
  at_v : P.mg dv.name = some (.ref (fa.addr 0))
  p : P.p = hd01.view_39

theorem facts {prog : Program} {w : World} {mean : ExcName → Option Value} {mg mb : Str → Option Value} {h : Heap}
    (T : Top hd01.view_39 (looseW hd01.view_39 [Str.ofString "ONE_SIXTH", Str.ofString "TWO_THIRD"]) mean mg mb h)
    (V : LooseAre [(Str.ofString "ONE_SIXTH", WData.float 4595172819793696085), (Str.ofString "TWO_THIRD", WData.float 4604180019048437077)] mg h) :
    Facts ⟨prog, w, hd01.view_39, looseW hd01.view_39 [Str.ofString "ONE_SIXTH", Str.ofString "TWO_THIRD"], mean, mg, mb⟩ (faOf mg h ["_v"]) h := by
  have hv := fa_at T (def_v ⟨prog, w, hd01.view_39, [], mean, mg, mb⟩ rfl).mem (names := ["_v"]) (k := 0) (by rw [dv_name]; rfl)
  refine ⟨⟨?_, ?_⟩, ⟨?_, ?_⟩, hv.1, rfl⟩
  · intro j x v hx hg
    match j, hx, hg with
    | 0, hx, hg =>
      cases hx; cases hg
      obtain ⟨t, ht⟩ := glob_flt V (x := "ONE_SIXTH") (b := 4595172819793696085) (by decide +kernel) (by decide +kernel)
      exact ⟨by decide +kernel, .float _ t, rfl, .inl ht⟩
    | 1, hx, hg =>
      cases hx; cases hg
      obtain ⟨t, ht⟩ := glob_flt V (x := "TWO_THIRD") (b := 4604180019048437077) (by decide +kernel) (by decide +kernel)
      exact ⟨by decide +kernel, .float _ t, rfl, .inl ht⟩
    | j + 2, hx, hg => cases hg
  · intro j k hg
    match j, hg with
    | 0, hg => cases hg
    | 1, hg => cases hg
    | j + 2, hg => cases hg
  · intro j x v hx hg
    match j, hx, hg with
    | 0, hx, hg => cases hx; cases hg; exact ⟨by decide +kernel, .type "range", rfl, .inr (glob_bi T (v := .type "range") (by decide +kernel) (by decide +kernel) (by decide +kernel) (by decide +kernel) (by decide +kernel) (by decide +kernel) (by decide +kernel))⟩
    | 1, hx, hg => cases hx; cases hg; exact ⟨by decide +kernel, .builtin "len", rfl, .inr (glob_bi T (v := .builtin "len") (by decide +kernel) (by decide +kernel) (by decide +kernel) (by decide +kernel) (by decide +kernel) (by decide +kernel) (by decide +kernel))⟩
    | 2, hx, hg => cases hx; cases hg; exact ⟨by decide +kernel, .builtin "abs", rfl, .inr (glob_bi T (v := .builtin "abs") (by decide +kernel) (by decide +kernel) (by decide +kernel) (by decide +kernel) (by decide +kernel) (by decide +kernel) (by decide +kernel))⟩
    | 3, hx, hg => cases hx; cases hg; exact ⟨by decide +kernel, .builtin "min", rfl, .inr (glob_bi T (v := .builtin "min") (by decide +kernel) (by decide +kernel) (by decide +kernel) (by decide +kernel) (by decide +kernel) (by decide +kernel) (by decide +kernel))⟩
    | 4, hx, hg => cases hx; cases hg; exact ⟨by decide +kernel, .builtin "max", rfl, .inr (glob_bi T (v := .builtin "max") (by decide +kernel) (by decide +kernel) (by decide +kernel) (by decide +kernel) (by decide +kernel) (by decide +kernel) (by decide +kernel))⟩
    | 5, hx, hg => cases hx; cases hg; refine ⟨by decide +kernel, .ref _, rfl, .inl ?_⟩; have := hv.1; rw [dv_name] at this; exact this
    | j + 6, hx, hg => cases hg
  · intro j k hg
    match j, hg with
    | 0, hg => cases hg
    | 1, hg => cases hg
    | 2, hg => cases hg
    | 3, hg => cases hg
    | 4, hg => cases hg
    | 5, hg => cases hg; exact hv.2
    | j + 6, hg => cases hg

theorem law_ok {P : PF} {fa : FA} {h : Heap} (X : Facts P fa h) {sc : Scope} (hl : ∀ x ∈ K_law.names, sc.names.lookup x = some .local ∧ (x == ("__debug__" : Str)) = false) (hg : ∀ x ∈ K_law.globs, sc.names.lookup x = some .globalImplicit) :
    ∀ C : Cx, C.K = K_law → C.gval = gv_law → C.fns = fns01 → C.fa = fa → FrameOf P C 8 → (∀ x, C.env.kindOf x = sc.names.lookup x) → CxOK C := by
  intro C hK hgv hf hfa Fo hk
  have D := def_v P X.p
  refine ok_of Fo (by rw [hK, hgv, hfa]; exact X.gl) (by rw [hK]; decide +kernel) (by rw [hK]; intro x hx; rw [hk]; exact hl x hx) (by rw [hK]; intro x hx; rw [hk]; exact hg x hx) ?_
  intro k args cargs σ Q s m ad news R ra q
  rw [hf] at q
  obtain ⟨rfl, q⟩ := q
  refine call_def (room := 7) Fo D (by rw [hfa]; exact X.at_v) (fun C' hK' hg' hf' hfa' Fo' hk' => ?_) args cargs σ Q s m ad news R ra q
  refine ok_of Fo' (by rw [hK', hg', hfa', hfa]; exact X.gv) (by rw [hK']; exact D.nodup) (by rw [hK']; intro x hx; rw [hk']; exact D.locs x hx) (by rw [hK']; intro x hx; rw [hk']; exact D.globs x hx) ?_
  intro k args cargs σ Q s m ad news R ra q
  rw [hf'] at q
  exact q.elim

end Mine
namespace Mine
open PySem PySem.W PySem.Float64

theorem lit_one : (0x3ff0000000000000 : UInt64) = one := by decide +kernel
theorem one_nz : isZero one = false := by decide +kernel

local macro_rules | `(tactic| walk_at "ev loc") => `(tactic| first | exact loc_set_eq | ((with_reducible refine loc_set_ne ?hd ?_); (case hd => decide); walk_at "ev loc") | (with_reducible refine loc_alloc ?_; walk_at "ev loc") | assumption | exact rfl)
local macro_rules | `(tactic| walk_at "ev objs") => `(tactic| first | ((with_reducible refine' objs_set ?hx); (case hx => walk_at "ev objs")) | ((with_reducible refine' objs_alloc ?hx); (case hx => walk_at "ev objs")) | assumption | exact rfl)
local macro_rules | `(tactic| walk_at "ev") => `(tactic| first
  | with_reducible refine i_const ?_
  | ((with_reducible refine' i_loc ?hl ?_); (case hl => walk_at "ev loc"))
  | with_reducible refine i_bin ?_
  | with_reducible refine i_cmp ?_
  | with_reducible refine i_call ?_
  | ((with_reducible refine' i_glob ?hl ?_); (case hl => exact rfl); (try refine ⟨rfl, ?_⟩))
  | with_reducible refine i_es_cons ?_
  | with_reducible refine i_es_nil ?_
  | with_reducible refine i_assign ?_
  | with_reducible refine i_if ?_
  | with_reducible refine i_ret ?_
  | with_reducible refine i_nil ?_
  | with_reducible refine i_truth ?_
  | with_reducible refine i_bools ?_
  | with_reducible refine i_br_nil ?_
  | with_reducible refine i_and ?_ ?_
  | with_reducible refine i_or ?_ ?_
  | with_reducible refine i_ite ?_
  | with_reducible refine i_sub ?_
  | with_reducible refine i_slTo ?_
  | with_reducible refine i_slFrom ?_
  | with_reducible refine i_slAll ?_
  | with_reducible refine i_tuple ?_
  | with_reducible refine i_list ?_
  | with_reducible refine i_neg ?_
  | with_reducible refine i_not ?_
  | with_reducible refine o_addI ?_ | with_reducible refine o_subI ?_
  | with_reducible refine o_addF ?_ | with_reducible refine o_subF ?_ | with_reducible refine o_mulF ?_
  | ((with_reducible refine c_int ?ho ?_); (case ho => exact rfl)) | ((with_reducible refine c_flt ?ho ?_); (case ho => exact rfl))
  | with_reducible refine k_abs ?_ | with_reducible refine k_min ?_ | with_reducible refine k_max ?_ | with_reducible refine k_range1 ?_)

theorem v_gives (x y z : UInt64) (objs : List (List AV)) (Q : AV → List (List AV) → Prop) (h : Q (.float (vF x y z)) objs) : fnW gv_v noFns 3 B_v [.float x, .float y, .float z] objs Q := by
  refine ⟨rfl, ?_⟩
  unfold B_v
  unfold vF at h
  repeat' (first | walk_at "ev" | (rw [lit_one]; refine o_modF one_nz ?_) | (refine ⟨fun hc => ?_, fun hc => ?_⟩) | dsimp only)
  all_goals (simp only [*, Bool.false_eq_true, if_true, if_false] at h; exact h)

theorem k_v {σ : St} {Q : AV → St → Prop} {x y z : UInt64} (h : Q (.float (vF x y z)) σ) : callW fns01 (.fn 0) [.float x, .float y, .float z] σ Q := ⟨rfl, v_gives _ _ _ _ _ h⟩

theorem intsOf_map (l : List Int) : intsOf (l.map .int) = some l := by
  induction l with
  | nil => rfl
  | cons a r ih => simp [intsOf, ih]
theorem pick_map (l : List Int) (lo hi : Option Int) : pick (l.map AV.int) lo hi = (pick l lo hi).map .int := by
  unfold pick
  simp [List.map_take, List.map_drop]
theorem pick_len {α : Type} (l : List α) (lo hi : Option Int) : (pick l lo hi).length ≤ l.length := by
  unfold pick
  rw [List.length_take, List.length_drop]
  omega
theorem mulOk_l {x y : Int} (h : x.natAbs < 2 ^ 64) : IntMulOk x y := by
  refine IntMulOk.of_left ?_
  unfold Builtin.Int.intBits
  split
  · omega
  · rename_i hx
    have : x.natAbs.log2 < 64 := (Nat.log2_lt (by simpa using hx)).mpr h
    omega


theorem fmod_pos {x y : Int} (h : 0 < y) : x.fmod y = x % y := Int.fmod_eq_emod_of_nonneg x (Int.le_of_lt h)
theorem fdiv_pos {x y : Int} (h : 0 < y) : x.fdiv y = x / y := Int.fdiv_eq_ediv_of_nonneg x (Int.le_of_lt h)

theorem fits64 {x : Int} (h : x.natAbs < 2 ^ 64) : x.natAbs < 2 ^ 1023 := Nat.lt_of_lt_of_le h (Nat.pow_le_pow_right (by decide) (by decide))
theorem o_powN {σ : St} {Q : AV → St → Prop} {x : Int} {n : Nat} (h1 : n ≤ 1000000) (h2 : x.natAbs < 2 ^ 64) (h : Q (.int (x ^ n)) σ) : binL .Pow (.int x) (.int (n : Int)) σ Q := ⟨⟨by omega, by omega, h2⟩, h⟩
theorem pow48 {A B : Nat} (hA : A + B = 48) : (2 : Int) ^ B * 2 ^ A = 2 ^ 48 := by rw [← Int.pow_add, Nat.add_comm, hA]

/-- a level between two levels -/
theorem between {one two c T M : Int} (h1 : 0 ≤ one ∧ one ≤ M) (h2 : 0 ≤ two ∧ two ≤ M) (hc : 0 ≤ c ∧ c ≤ T) : 0 ≤ one * T + (two - one) * c ∧ one * T + (two - one) * c ≤ M * T := by
  have e : one * T + (two - one) * c = one * (T - c) + two * c := by
    rw [Int.sub_mul, Int.mul_sub]; omega
  rw [e]
  have a1 := Int.mul_nonneg h1.1 (show 0 ≤ T - c by omega)
  have a2 := Int.mul_nonneg h2.1 hc.1
  have a3 := Int.mul_le_mul_of_nonneg_right h1.2 (show 0 ≤ T - c by omega)
  have a4 := Int.mul_le_mul_of_nonneg_right h2.2 hc.1
  have a5 : M * T = M * (T - c) + M * c := by rw [Int.mul_sub]; omega
  omega

/-- one turn of the inner loop -/
theorem turn_in {σ : St} {P : Fl → St → Prop} {A B : Nat} {start one two t : Int} (hA : A + B = 48) (h3 : σ.loc 3 = some (.int B)) (h4 : σ.loc 4 = some (.int (2 ^ A))) (h7 : σ.loc 7 = some (.int start)) (h8 : σ.loc 8 = some (.int one)) (h9 : σ.loc 9 = some (.int two))
    (hs : -2 ^ 50 ≤ start ∧ start < 2 ^ 50) (h1 : 0 ≤ one ∧ one ≤ 2 ^ B) (h2 : 0 ≤ two ∧ two ≤ 2 ^ B) (ht : 0 ≤ t ∧ t < 12)
    (hP : ∀ σ₃ : St, (∀ n, n < 10 → σ₃.loc n = σ.loc n) → σ₃.objs = σ.objs → P .next σ₃) : wpSs gv_law fns01 B_law_1 (σ.set 10 (.int t)) P := by
  have p48 : (2 : Int) ^ A ≤ 2 ^ 48 := by
    have : 2 ^ A ≤ 2 ^ 48 := Nat.pow_le_pow_right (by decide) (by omega)
    exact_mod_cast this
  have pA : (0 : Int) < 2 ^ A := pow_pos_int A
  have pB : (0 : Int) < 2 ^ B := pow_pos_int B
  have pB48 : (2 : Int) ^ B ≤ 2 ^ 48 := by
    have : 2 ^ B ≤ 2 ^ 48 := Nat.pow_le_pow_right (by decide) (by omega)
    exact_mod_cast this
  unfold B_law_1
  repeat' (first | walk_at "ev" | dsimp only)
  refine o_mulI (mulOk_l (by omega)) ?_
  repeat' (first | walk_at "ev" | dsimp only)
  refine o_fdivI (by decide) (by decide) ?_
  repeat' (first | walk_at "ev" | dsimp only)
  rw [fdiv_pos (by decide)]
  have hparts : -2 ^ 51 ≤ start + t * 2 ^ A / 12 ∧ start + t * 2 ^ A / 12 < 2 ^ 51 := by
    have e1 : 0 ≤ t * 2 ^ A / 12 := Int.ediv_nonneg (Int.mul_nonneg ht.1 (Int.le_of_lt pA)) (by decide)
    have e2 : t * 2 ^ A ≤ 12 * 2 ^ 48 := Int.le_trans (Int.mul_le_mul_of_nonneg_left p48 ht.1) (Int.mul_le_mul_of_nonneg_right (by omega) (by decide))
    have e3 : t * 2 ^ A / 12 ≤ 2 ^ 48 := by omega
    omega
  generalize start + t * 2 ^ A / 12 = parts at hparts ⊢
  refine o_modI (by omega) ?_
  rw [fmod_pos pA]
  have hp0 := Int.emod_nonneg parts (Int.ne_of_gt pA)
  have hp1 := Int.emod_lt_of_pos parts pA
  generalize hpl : parts % 2 ^ A = place at hp0 hp1 ⊢
  repeat' (first | walk_at "ev" | dsimp only)
  refine o_mulI (mulOk_l (by decide)) ?_
  repeat' (first | walk_at "ev" | dsimp only)
  generalize hfar : (if 3 * place - 2 ^ A < 0 then -(3 * place - 2 ^ A) else 3 * place - 2 ^ A) = far
  have hfar' : 0 ≤ far ∧ far ≤ 2 * 2 ^ A := by split at hfar <;> omega
  refine o_mulI (mulOk_l (by decide)) ?_
  repeat' (first | walk_at "ev" | dsimp only)
  refine o_mulI (mulOk_l (by decide)) ?_
  repeat' (first | walk_at "ev" | dsimp only)
  generalize hcl : (if 2 ^ A < (if 0 > 2 * 2 ^ A - 2 * far then 0 else 2 * 2 ^ A - 2 * far) then 2 ^ A else if 0 > 2 * 2 ^ A - 2 * far then 0 else 2 * 2 ^ A - 2 * far) = climb
  have hcl' : 0 ≤ climb ∧ climb ≤ 2 ^ A := by (repeat' split at hcl) <;> omega
  have hM := math01 hA hparts hpl h1 h2 hfar hcl
  have hbt := between h1 h2 hcl'
  rw [pow48 hA] at hbt
  refine o_mulI (mulOk_l (by omega)) ?_
  repeat' (first | walk_at "ev" | dsimp only)
  refine o_mulI (mulOk_l (by omega)) ?_
  repeat' (first | walk_at "ev" | dsimp only)
  refine o_powN (n := 48) (by decide) (by decide) ?_
  refine o_divI (by decide) (fits64 (by omega)) ?_
  repeat' (first | walk_at "ev" | dsimp only)
  refine o_powN (by omega) (by decide) ?_
  refine o_divI (by omega) (fits64 (by omega)) ?_
  repeat' (first | walk_at "ev" | dsimp only)
  refine o_powN (by omega) (by decide) ?_
  refine o_divI (by omega) (fits64 (by omega)) ?_
  repeat' (first | walk_at "ev" | dsimp only)
  refine o_divI (by omega) (fits64 (by omega)) ?_
  repeat' (first | walk_at "ev" | dsimp only)
  refine k_v ?_
  generalize vF (divII one (2 ^ B)) (divII two (2 ^ B)) (divII parts (2 ^ A)) = told at hM ⊢
  generalize divII (one * 2 ^ A + (two - one) * climb) (2 ^ 48) = due at hM ⊢
  repeat' (first | walk_at "ev" | (refine ⟨fun hc => ?_, fun hc => ?_⟩) | (with_reducible intro hc) | (with_reducible refine o_mulI (mulOk_l (by decide)) ?_) | (with_reducible refine k_v ?_) | ((with_reducible refine o_divI ?h0 ?h1 ?_); (case h0 => first | decide | omega); (case h1 => exact fits64 (by first | decide | omega))) | ((refine o_powN ?h0 ?h1 ?_); (case h0 => omega); (case h1 => decide)) | dsimp only)
  all_goals first
    | (refine hP _ (fun n hn => ?_) rfl; simp only [St.set, upd]; (repeat rw [if_neg (by omega)]); done)
    | (exfalso; obtain ⟨hM1, hM2⟩ := hM; (try simp only [icmp, decide_eq_true_eq, decide_eq_false_iff_not] at *); first | (exact hM1 (by assumption) (by omega)) | (simp_all; done) | omega)

/-- one turn of the outer loop -/
theorem turn_out {σ : St} {P : Fl → St → Prop} {A B : Nat} {O : List (List AV)} {cs : List Int} {i : Nat} (hA : A + B = 48) (h3 : σ.loc 3 = some (.int B)) (h4 : σ.loc 4 = some (.int (2 ^ A))) (h5 : σ.loc 5 = some (.lst 7)) (ho : σ.objs = O) (hO : O[7]? = some (cs.map .int))
    (hi : i < (Builtin.Range.rangeSize 0 ((cs.length : Int) - 2) 3).toNat) (hcs : cs.length < 2 ^ 40) 
    (hP : ∀ σ₃ : St, (∀ n, n < 6 → σ₃.loc n = σ.loc n) → σ₃.objs = σ.objs → P .next σ₃) : wpSs gv_law fns01 B_law_2 (σ.set 6 (.int (0 + (i : Int) * 3))) P := by
  have hk : 3 * i + 2 < cs.length := by
    unfold Builtin.Range.rangeSize at hi
    simp only [show (3 : Int) > 0 by decide, if_true] at hi
    split at hi <;> omega
  have pA : (0 : Int) < 2 ^ A := pow_pos_int A
  have pB : (0 : Int) < 2 ^ B := pow_pos_int B
  have item : ∀ (j : Nat), j < 3 → (cs.map AV.int)[((0 + (i : Int) * 3) + (j : Int)).toNat]? = some (.int (cs.getD (3 * i + j) 0)) := by
    intro j hj
    have e : ((0 + (i : Int) * 3) + (j : Int)).toNat = 3 * i + j := by omega
    rw [e, List.getElem?_map, List.getElem?_eq_getElem (by omega)]
    simp [List.getD, List.getElem?_eq_getElem (show 3 * i + j < cs.length by omega)]
  have it0 := item 0 (by decide)
  have it1 := item 1 (by decide)
  have it2 := item 2 (by decide)
  rw [show (0 + (i : Int) * 3) + ((0 : Nat) : Int) = 0 + (i : Int) * 3 by omega] at it0
  generalize cs.getD (3 * i + 0) 0 = x at it0
  generalize cs.getD (3 * i + 1) 0 = y at it1
  generalize cs.getD (3 * i + 2) 0 = z at it2
  unfold B_law_2
  repeat' (first | walk_at "ev" | dsimp only)
  refine s_item (by walk_at "ev objs") hO (by omega) (by omega) it0 ?_
  repeat' (first | walk_at "ev" | dsimp only)
  refine o_powN (n := 50) (by decide) (by decide) ?_
  repeat' (first | walk_at "ev" | dsimp only)
  refine o_powN (n := 51) (by decide) (by decide) ?_
  refine o_modI (by decide) ?_
  repeat' (first | walk_at "ev" | dsimp only)
  refine o_powN (n := 50) (by decide) (by decide) ?_
  repeat' (first | walk_at "ev" | dsimp only)
  rw [fmod_pos (by decide)]
  have hs : -2 ^ 50 ≤ (x + 2 ^ 50) % 2 ^ 51 - 2 ^ 50 ∧ (x + 2 ^ 50) % 2 ^ 51 - 2 ^ 50 < 2 ^ 50 := by omega
  generalize (x + 2 ^ 50) % 2 ^ 51 - 2 ^ 50 = start at hs ⊢
  refine s_item (by walk_at "ev objs") hO (by omega) (by omega) it1 ?_
  repeat' (first | walk_at "ev" | dsimp only)
  refine o_powN (by omega) (by decide) ?_
  repeat' (first | walk_at "ev" | dsimp only)
  refine o_modI (by omega) ?_
  repeat' (first | walk_at "ev" | dsimp only)
  rw [fmod_pos (by omega)]
  have h1 : 0 ≤ y % (2 ^ B + 1) ∧ y % (2 ^ B + 1) ≤ 2 ^ B := by
    have a1 := Int.emod_nonneg y (show (2 : Int) ^ B + 1 ≠ 0 by omega)
    have a2 := Int.emod_lt_of_pos y (show (0 : Int) < 2 ^ B + 1 by omega)
    omega
  generalize y % (2 ^ B + 1) = one at h1 ⊢
  refine o_powN (by omega) (by decide) ?_
  repeat' (first | walk_at "ev" | dsimp only)
  refine s_item (by walk_at "ev objs") hO (by omega) (by omega) it2 ?_
  repeat' (first | walk_at "ev" | dsimp only)
  refine o_powN (by omega) (by decide) ?_
  repeat' (first | walk_at "ev" | dsimp only)
  refine o_modI (by omega) ?_
  rw [fmod_pos (by omega)]
  have h2 : 0 ≤ (2 ^ B - z) % (2 ^ B + 1) ∧ (2 ^ B - z) % (2 ^ B + 1) ≤ 2 ^ B := by
    have a1 := Int.emod_nonneg (2 ^ B - z) (show (2 : Int) ^ B + 1 ≠ 0 by omega)
    have a2 := Int.emod_lt_of_pos (2 ^ B - z) (show (0 : Int) < 2 ^ B + 1 by omega)
    omega
  generalize (2 ^ B - z) % (2 ^ B + 1) = two at h2 ⊢
  refine i_for ?_
  repeat' (first | walk_at "ev" | dsimp only)
  refine t_rng (by decide) (by decide) ?_
  refine ⟨fun _ σ' => (∀ n, n < 10 → σ'.loc n = ((((σ.set 6 (.int (0 + (i : Int) * 3))).set 7 (.int start)).set 8 (.int one)).set 9 (.int two)).loc n) ∧ σ'.objs = σ.objs, ⟨fun _ _ => rfl, rfl⟩, ?_, ?_⟩
  · rintro j σ₂ hj ⟨hl, hob⟩
    have hj' : j < 12 := hj
    refine turn_in hA (start := start) (one := one) (two := two) ?_ ?_ ?_ ?_ ?_ hs h1 h2 (by omega) ?_
    · rw [hl _ (by decide)]; walk_at "ev loc"
    · rw [hl _ (by decide)]; walk_at "ev loc"
    · rw [hl _ (by decide)]; walk_at "ev loc"
    · rw [hl _ (by decide)]; walk_at "ev loc"
    · rw [hl _ (by decide)]; walk_at "ev loc"
    · intro σ₃ hk1 hk2
      exact ⟨fun n hn => by rw [hk1 n hn]; exact hl n hn, hk2.trans hob⟩
  · rintro σ₂ ⟨hl, hob⟩
    refine i_nil (hP _ (fun n hn => ?_) hob)
    rw [hl n (by omega)]
    simp only [St.set, upd]
    (repeat rw [if_neg (by omega)])

theorem range_small {b c : Int} (hb : -2 ^ 62 ≤ b) (hb' : b < 2 ^ 40) (hc : 0 < c) (hc' : c < 2 ^ 40) : Builtin.Range.small 0 b c = true := by
  have e : Builtin.Range.rangeSize 0 b c ≤ 2 ^ 40 := by
    unfold Builtin.Range.rangeSize
    rw [if_pos hc]
    split
    · have := Int.ediv_le_self (a := b - 0 - 1) c (by omega)
      omega
    · omega
  have e0 : 0 ≤ Builtin.Range.rangeSize 0 b c := by
    unfold Builtin.Range.rangeSize
    rw [if_pos hc]
    split
    · have := Int.ediv_nonneg (a := b - 0 - 1) (b := c) (by omega) (by omega)
      omega
    · omega
  unfold Builtin.Range.small
  simp only [Builtin.Range.rangeFitsLong, Bool.and_eq_true, Bool.or_eq_true, decide_eq_true_eq, beq_iff_eq]
  generalize Builtin.Range.rangeSize 0 b c = z at *
  refine ⟨⟨⟨⟨?_, ?_⟩, ?_⟩, ?_⟩, ?_⟩
  · omega
  · omega
  · omega
  · omega
  · right
    rw [if_pos hc]
    simp only [Bool.and_eq_true, decide_eq_true_eq]
    omega

theorem plain01 (ns : List Int) (hn : ns.length ≤ 63) : wpSs gv_law fns01 B_law ⟨fun i => if i = 0 then some (.lst 0) else none, [ns.map .int], []⟩ fun fl _ => fl = .ret (.bool true) := by
  unfold B_law
  repeat' (first | walk_at "ev" | dsimp only)
  refine ⟨63, rfl, s_slice rfl rfl (by simp [sizeLine]; omega) ?_⟩
  rw [pick_map]
  generalize hms : pick ns none (some 63) = ms
  have hml : ms.length ≤ 63 := by have := pick_len ns none (some 63); rw [hms] at this; omega
  refine i_assign ?_
  suffices rest : ∀ (σ : St) (first : Int), σ.loc 0 = some (.lst 1) → σ.objs = [ns.map .int, ms.map .int, []] → wpSs gv_law fns01 _ (σ.set 1 (.int first)) _ by
    repeat' (first | walk_at "ev" | dsimp only)
    refine l_new rfl (by decide) ?_
    refine c_neL (by walk_at "ev objs") rfl rfl (intsOf_map ms) rfl ?_
    refine i_truth ⟨fun hc => ?_, fun hc => ?_⟩
    · repeat' (first | walk_at "ev" | dsimp only)
      have hne : ms ≠ [] := by simpa using hc
      obtain ⟨x, r, rfl⟩ := List.exists_cons_of_ne_nil hne
      refine s_item (v := .int x) (by walk_at "ev objs") rfl (by decide) (by decide) rfl ?_
      exact rest _ _ (by walk_at "ev loc") (by walk_at "ev objs")
    · refine i_const ?_
      exact rest _ _ (by walk_at "ev loc") (by walk_at "ev objs")
  intro σ first h0 ho
  repeat' (first | walk_at "ev" | dsimp only)
  refine o_modI (by decide) ?_
  rw [fmod_pos (by decide)]
  obtain ⟨A, hA, hA2⟩ : ∃ A : Nat, (24 + first) % 49 = (A : Int) ∧ A ≤ 48 := ⟨((24 + first) % 49).toNat, by omega, by omega⟩
  rw [hA]
  repeat' (first | walk_at "ev" | dsimp only)
  obtain ⟨B, hB⟩ : ∃ B : Nat, A + B = 48 := ⟨48 - A, by omega⟩
  rw [show (48 : Int) - (A : Int) = (B : Int) by omega]
  refine o_powN (by omega) (by decide) ?_
  repeat' (first | walk_at "ev" | dsimp only)
  refine ⟨1, rfl, ?_⟩
  repeat' (first | walk_at "ev" | dsimp only)
  refine' l_new ?q1 ?q3 ?_
  case q1 => walk_at "ev objs"
  case q3 => decide
  repeat' (first | walk_at "ev" | dsimp only)
  refine ⟨1, rfl, ?_⟩
  refine' s_slice ?q1 ?q2 ?q3 ?_
  case q1 => walk_at "ev objs"
  case q2 => exact rfl
  case q3 => simp [sizeLine]; omega
  rw [pick_map]
  generalize hrs : pick ms (some 1) none = rs
  have hrl : rs.length ≤ 63 := by have := pick_len ms (some 1) none; rw [hrs] at this; omega
  refine' o_addL ?q1 ?q4 ?q2 ?q3 ?_
  case q1 => walk_at "ev objs"
  case q4 => exact rfl
  case q2 => exact rfl
  case q3 => simp [sizeLine]; omega
  repeat' (first | walk_at "ev" | dsimp only)
  refine' l_new ?q1 ?q3 ?_
  case q1 => walk_at "ev objs"
  case q3 => decide
  refine' o_addL ?q1 ?q4 ?q2 ?q3 ?_
  case q1 => walk_at "ev objs"
  case q4 => exact rfl
  case q2 => exact rfl
  case q3 => simp [sizeLine]; omega
  refine i_for ?_
  repeat' (first | walk_at "ev" | dsimp only)
  refine' k_len ?q1 ?q4 ?q3 ?_
  case q1 => walk_at "ev objs"
  case q4 => exact rfl
  case q3 => simp; omega
  repeat' (first | walk_at "ev" | dsimp only)
  refine k_range3 (by decide) (by decide) ?_
  have hcells : ∃ cs : List Int, (([AV.int (-1), .int 0, .int 0, .int 12345, .int 23458, .int 34570] ++ rs.map .int) ++ [.int 0, .int 0] : List AV) = cs.map .int ∧ 8 ≤ cs.length ∧ cs.length ≤ 100 :=
    ⟨[-1, 0, 0, 12345, 23458, 34570] ++ rs ++ [0, 0], by simp, by simp, by simp; omega⟩
  obtain ⟨cs, hcs, hc1, hc2⟩ := hcells
  rw [hcs, List.length_map]
  refine t_rng (range_small (by omega) (by omega) (by decide) (by decide)) (by decide) ?_
  have fin : ∀ (σ5 : St) (O : List (List AV)), σ5.loc 3 = some (.int B) → σ5.loc 4 = some (.int (2 ^ A)) → σ5.loc 5 = some (.lst 7) → σ5.objs = O → O[7]? = some (cs.map .int) →
      ∃ J : Nat → St → Prop, J 0 σ5 ∧ (∀ (i : Nat) (σ₂ : St), i < (Builtin.Range.rangeSize 0 ((cs.length : Int) - 2) 3).toNat → J i σ₂ → wpSs gv_law fns01 B_law_2 (σ₂.set 6 (.int (0 + (i : Int) * 3))) fun fl σ₃ => match fl with | .next => J (i + 1) σ₃ | .ret v => Fl.ret v = .ret (.bool true)) ∧
        ∀ σ₂, J (Builtin.Range.rangeSize 0 ((cs.length : Int) - 2) 3).toNat σ₂ → wpSs gv_law fns01 (.cons (.ret (.const (.bool true))) .nil) σ₂ fun fl _ => fl = .ret (.bool true) := by
    intro σ5 O f3 f4 f5 fo fO
    refine ⟨fun _ σ' => (∀ n, n < 6 → σ'.loc n = σ5.loc n) ∧ σ'.objs = σ5.objs, ⟨fun _ _ => rfl, rfl⟩, ?_, ?_⟩
    · rintro i σ₂ hi ⟨hl, hob⟩
      refine turn_out hB ((hl _ (by decide)).trans f3) ((hl _ (by decide)).trans f4) ((hl _ (by decide)).trans f5) (hob.trans fo) fO hi (by omega) ?_
      intro σ₃ k1 k2
      exact ⟨fun n hn => (k1 n hn).trans (hl n hn), k2.trans hob⟩
    · rintro σ₂ _
      exact i_ret (i_const rfl)
  refine' fin _ _ ?r3 ?r4 ?r5 ?r6 ?r7
  case r3 => walk_at "ev loc"
  case r4 => walk_at "ev loc"
  case r5 => walk_at "ev loc"
  case r6 => walk_at "ev objs"
  case r7 => exact rfl
end Mine

theorem PySem.Challenge.cw_dm0026_01_holds : PySem.Challenge.rw_dm0026_01.Holds := by
  refine Mine.hd01 ?_
  k_go0
  rename Top _ _ _ _ _ _ => T
  rename Fr _ _ _ _ => F
  rename LooseAre _ _ _ => V
  rename IntsAre _ _ => hI
  rename Heap.IsList _ _ _ => hL
  rename _ = #[] => hg
  rename ¬ _ < _ => hlen
  refine Mine.law_start T F hL hI (K := Mine.K_law) (ps := Mine.B_law) (gval := Mine.gv_law) (fns := Mine.fns01) (fa := Mine.faOf _ _ ["_v"]) (by decide +kernel) rfl (by decide +kernel) rfl (Mine.law_ok (Mine.facts T V) (by decide +kernel) (by decide +kernel)) (Mine.plain01 _ (by omega)) ?_
  intro h' tk m' F'
  exact goodW_bool F' hg (fun _ => rfl) (by kernel_rfl) rfl
