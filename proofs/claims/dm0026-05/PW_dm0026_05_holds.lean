import PyProof.Rows.All
import Wide.All
import OpenK.AllK
import Wide.FinOn
import PySem.Challenge.RW_dm0026_05
open PySem PySem.W PyProof.Rows
set_option Elab.async false
set_option maxRecDepth 100000
set_option maxHeartbeats 8000000
set_option linter.unusedVariables false
namespace Mine
open_top hd05 for PySem.Challenge.rw_dm0026_05
end Mine
set_option autoImplicit false
set_option genSizeOf false
set_option genSizeOfSpec false
set_option genInjectivity false
set_option compiler.extract_closed false
namespace Mine
open PySem PySem.W PySem.Calls PyProof.Rows

noncomputable def gallopP : Bool → Keyed → Array Keyed → Nat → Nat → Nat → StateT SortSt Sem (Option Nat) := sortPriv% PySem.Builtin.gallop
noncomputable def mergeLoP : Array Keyed → Array Keyed → StateT SortSt Sem (Array Keyed) := sortPriv% PySem.Builtin.mergeLo
noncomputable def mergeHiP : Array Keyed → Array Keyed → StateT SortSt Sem (Array Keyed) := sortPriv% PySem.Builtin.mergeHi

noncomputable def AllIn (a₀ xs : Array Keyed) : Prop := ∀ x ∈ xs, x ∈ a₀
structure SOk (κ : SortKind) (a₀ : Array Keyed) (st : SortSt) : Prop where
  kind : kindOf st = κ
  failed : failedOf st = none
  size : (arrOf st).size = a₀.size
  mem : AllIn a₀ (arrOf st)
noncomputable def Asks (prog : Program) (w : World) (A : Around) (s : Shared) (κ : SortKind) (a₀ : Array Keyed) : Prop :=
  ∀ x ∈ a₀, ∀ y ∈ a₀, ∀ (E : Value → Shared → Prop) (Q : Bool → Shared → Prop), (∀ b, Q b s) → wpAny (model prog w) A (keyLt' κ x.1 y.1) Q E s

section
variable {prog : Program} {w : World} {A : Around} {E : Value → Shared → Prop} {s : Shared} {κ : SortKind} {a₀ : Array Keyed} {st : SortSt}
theorem s_lt {x y : Keyed} {Q : Option Bool → SortSt → Prop} (H : Asks prog w A s κ a₀) (B : SOk κ a₀ st) (hx : x ∈ a₀) (hy : y ∈ a₀) (h : ∀ b, Q (some b) st) : wpS (model prog w) A E s (lt' x y) Q st := by
  rw [lt'_eq]
  refine wpS_bind (wpS_get ?_)
  rw [B.kind]
  refine wpS_bind (wpS_lift (wpAny_attempt (H x hx y hy _ _ fun b => ⟨rfl, ?_⟩)))
  exact wpS_pure (h b)
theorem s_elem {arr : Array Keyed} {i : Nat} {Q : Keyed → SortSt → Prop} (ha : AllIn a₀ arr) (hi : i < arr.size) (h : ∀ x ∈ a₀, Q x st) : wpS (model prog w) A E s (elem' arr i) Q st := by
  rw [elem'_eq, getElem?_pos arr i hi]
  exact wpS_pure (h _ (ha _ (Array.getElem_mem hi)))
theorem s_ltAt {i j : Nat} {Q : Option Bool → SortSt → Prop} (H : Asks prog w A s κ a₀) (B : SOk κ a₀ st) (hi : i < a₀.size) (hj : j < a₀.size) (h : ∀ b, Q (some b) st) : wpS (model prog w) A E s (ltAt' i j) Q st := by
  rw [ltAt'_eq]
  refine wpS_bind (wpS_get ?_)
  refine wpS_bind (s_elem B.mem (by rw [B.size]; exact hi) fun x hx => ?_)
  exact wpS_bind (s_elem B.mem (by rw [B.size]; exact hj) fun y hy => s_lt H B hx hy h)
theorem s_if {c : Prop} [Decidable c] {α : Type} {m₁ m₂ : StateT SortSt Sem α} {Q : α → SortSt → Prop} (h1 : c → wpS (model prog w) A E s m₁ Q st) (h2 : ¬ c → wpS (model prog w) A E s m₂ Q st) : wpS (model prog w) A E s (if c then m₁ else m₂) Q st := by
  split
  · exact h1 ‹_›
  · exact h2 ‹_›
theorem s_ask {left : Bool} {key : Keyed} {arr : Array Keyed} {i : Nat} {Q : Option Bool → SortSt → Prop} (H : Asks prog w A s κ a₀) (B : SOk κ a₀ st) (hk : key ∈ a₀) (ha : AllIn a₀ arr) (hi : i < arr.size) (h : ∀ b, Q (some b) st) :
    wpS (model prog w) A E s (elem' arr i >>= fun x => if left = true then lt' x key else lt' key x >>= fun r => pure (Option.map (fun b => !b) r)) Q st :=
  wpS_bind (s_elem ha hi fun _ hx => s_if (fun _ => s_lt H B hx hk h) fun _ => wpS_bind (s_lt H B hk hx fun c => wpS_pure (h (!c))))
theorem gallop_ok {left : Bool} {key : Keyed} {arr : Array Keyed} {base n hint : Nat} {Q : Option Nat → SortSt → Prop} (H : Asks prog w A s κ a₀) (B : SOk κ a₀ st) (hk : key ∈ a₀) (ha : AllIn a₀ arr)
    (hb : base + n ≤ arr.size) (hh : hint < n) (h : ∀ k ≤ n, Q (some k) st) : wpS (model prog w) A E s (gallopP left key arr base n hint) Q st := by
  refine wpS_bind (s_ask H B hk ha (by (first | lia | omega)) fun c => ?_)
  dsimp only
  refine s_if (fun _ => ?_) (fun _ => ?_)
  · refine wpS_bind (wpS_mono (wpS_forRange (I := fun _ c st' => st' = st ∧ ∃ l o, c = (none, l, o) ∧ l < o ∧ l < n - hint) (Q := fun c st' => st' = st ∧ ∃ l o, c = (none, l, o) ∧ l < o ∧ l < n - hint) ?_ (fun _ _ hh => hh) ⟨rfl, 0, 1, rfl, by (first | lia | omega), by (first | lia | omega)⟩) ?_)
    · rintro x c st' _ _ ⟨rfl, l, o, rfl, h1, h2⟩
      refine s_if (fun _ => wpS_pure ⟨rfl, l, o, rfl, h1, h2⟩) (fun h3 => wpS_bind (s_ask H B hk ha (by dsimp only at h3 ⊢; (first | lia | omega)) fun c => s_if (fun _ => wpS_pure ⟨rfl, l, o, rfl, h1, h2⟩) (fun _ => wpS_pure ⟨rfl, o, 2 * o + 1, rfl, by (first | lia | omega), by dsimp only at h3; (first | lia | omega)⟩)))
    · rintro c st' ⟨rfl, l, o, rfl, h1, h2⟩
      dsimp only
      refine wpS_bind (wpS_mono (wpS_forRange (I := fun _ c st'' => st'' = st' ∧ ∃ l o, c = (none, l, o) ∧ o ≤ n) (Q := fun c st'' => st'' = st' ∧ ∃ l o, c = (none, l, o) ∧ o ≤ n) ?_ (fun _ _ hh => hh) ⟨rfl, _, _, rfl, by (first | lia | omega)⟩) ?_)
      · rintro x c st'' _ _ ⟨rfl, l, o, rfl, h1⟩
        exact s_if (fun _ => wpS_pure ⟨rfl, l, o, rfl, h1⟩) (fun h3 => wpS_bind (s_ask H B hk ha (by dsimp only at h3 ⊢; (first | lia | omega)) fun c => s_if (fun _ => wpS_pure ⟨rfl, _, o, rfl, h1⟩) (fun _ => wpS_pure ⟨rfl, l, _, rfl, by dsimp only at h3 ⊢; (first | lia | omega)⟩)))
      · rintro c st'' ⟨rfl, l, o, rfl, h1⟩
        exact wpS_pure (h _ h1)
  · refine wpS_bind (wpS_mono (wpS_forRange (I := fun _ c st' => st' = st ∧ ∃ l o, c = (none, l, o) ∧ l < o ∧ l < hint + 1) (Q := fun c st' => st' = st ∧ ∃ l o, c = (none, l, o) ∧ l < o ∧ l < hint + 1) ?_ (fun _ _ hh => hh) ⟨rfl, 0, 1, rfl, by (first | lia | omega), by (first | lia | omega)⟩) ?_)
    · rintro x c st' _ _ ⟨rfl, l, o, rfl, h1, h2⟩
      refine s_if (fun _ => wpS_pure ⟨rfl, l, o, rfl, h1, h2⟩) (fun h3 => wpS_bind (s_ask H B hk ha (by dsimp only at h3 ⊢; (first | lia | omega)) fun c => s_if (fun _ => wpS_pure ⟨rfl, l, o, rfl, h1, h2⟩) (fun _ => wpS_pure ⟨rfl, o, 2 * o + 1, rfl, by (first | lia | omega), by dsimp only at h3; (first | lia | omega)⟩)))
    · rintro c st' ⟨rfl, l, o, rfl, h1, h2⟩
      dsimp only
      refine wpS_bind (wpS_mono (wpS_forRange (I := fun _ c st'' => st'' = st' ∧ ∃ l o, c = (none, l, o) ∧ o ≤ n) (Q := fun c st'' => st'' = st' ∧ ∃ l o, c = (none, l, o) ∧ o ≤ n) ?_ (fun _ _ hh => hh) ⟨rfl, _, _, rfl, by (first | lia | omega)⟩) ?_)
      · rintro x c st'' _ _ ⟨rfl, l, o, rfl, h1⟩
        exact s_if (fun _ => wpS_pure ⟨rfl, l, o, rfl, h1⟩) (fun h3 => wpS_bind (s_ask H B hk ha (by dsimp only at h3 ⊢; (first | lia | omega)) fun c => s_if (fun _ => wpS_pure ⟨rfl, _, o, rfl, h1⟩) (fun _ => wpS_pure ⟨rfl, l, _, rfl, by dsimp only at h3 ⊢; (first | lia | omega)⟩)))
      · rintro c st'' ⟨rfl, l, o, rfl, h1⟩
        exact wpS_pure (h _ h1)
end
end Mine
namespace Mine
open PySem PySem.W PySem.Calls PyProof.Rows

theorem AllIn.push {a₀ xs : Array Keyed} {x : Keyed} (h : AllIn a₀ xs) (hx : x ∈ a₀) : AllIn a₀ (xs.push x) := fun y hy => by
  rcases Array.mem_push.mp hy with hy | rfl
  · exact h y hy
  · exact hx
theorem AllIn.app {a₀ xs ys : Array Keyed} (h : AllIn a₀ xs) (h' : AllIn a₀ ys) : AllIn a₀ (xs ++ ys) := fun y hy => (Array.mem_append.mp hy).elim (h y) (h' y)
theorem AllIn.extract {a₀ xs : Array Keyed} {i j : Nat} (h : AllIn a₀ xs) : AllIn a₀ (xs.extract i j) := fun y hy => by
  obtain ⟨k, hk, rfl⟩ := Array.mem_iff_getElem.mp hy
  rw [Array.getElem_extract]
  exact h _ (Array.getElem_mem _)
theorem AllIn.one {a₀ : Array Keyed} {x : Keyed} (hx : x ∈ a₀) : AllIn a₀ #[x] := fun y hy => by
  rw [Array.mem_singleton] at hy; subst hy; exact hx
theorem AllIn.rev {a₀ xs : Array Keyed} (h : AllIn a₀ xs) : AllIn a₀ xs.reverse := fun y hy => h y (Array.mem_reverse.mp hy)
section
variable {prog : Program} {w : World} {A : Around} {E : Value → Shared → Prop} {s : Shared} {κ : SortKind} {a₀ : Array Keyed} {st : SortSt}
noncomputable def Like (κ : SortKind) (a₀ : Array Keyed) (p : Array (Nat × Nat × Nat)) (st : SortSt) : Prop := SOk κ a₀ st ∧ pendingOf st = p
theorem Like.gal {p : Array (Nat × Nat × Nat)} (B : Like κ a₀ p st) (g : Nat) : Like κ a₀ p (SortSt.mk' (kindOf st) (arrOf st) (pendingOf st) g (failedOf st)) := ⟨⟨B.1.kind, B.1.failed, B.1.size, B.1.mem⟩, B.2⟩
theorem ne_beq {x y : Nat} (h : ¬ (x == y) = true) : x ≠ y := fun e => h (beq_iff_eq.mpr e)
theorem s_jp {α β : Type} {F : β → StateT SortSt Sem α} {m : StateT SortSt Sem α} {c : Prop} [Decidable c] {x y : β} {Q : α → SortSt → Prop} (hm : m = if c then F x else F y) (h : ∀ z, wpS (model prog w) A E s (F z) Q st) : wpS (model prog w) A E s m Q st := by
  subst hm; split <;> exact h _
theorem s_jp2 {α β γ : Type} {F : β → γ → StateT SortSt Sem α} {m : StateT SortSt Sem α} {Q : α → SortSt → Prop} (P : β → γ → Prop) (hF : ∀ x y, P x y → wpS (model prog w) A E s (F x y) Q st)
    (h : (∀ x y, P x y → wpS (model prog w) A E s (F x y) Q st) → wpS (model prog w) A E s m Q st) : wpS (model prog w) A E s m Q st := h hF
theorem s_eq {α : Type} {m : StateT SortSt Sem α} {Q : α → SortSt → Prop} (h : ∀ m', m' = m → wpS (model prog w) A E s m' Q st) : wpS (model prog w) A E s m Q st := h m rfl
theorem lo_step {i j x y : Nat} (h : i + j < x + y) : (i + 1 < x + (y + 1) ∧ i + (j + 1) < x + (y + 1)) ∧ i + 1 < x + 1 + y ∧ i + (j + 1) < x + 1 + y := by omega
theorem fits {x n : Nat} (h : x < n) : x + (n - x) ≤ n ∧ 0 < n - x := by omega
theorem gal_lt {x k n : Nat} (hx : x < n) (hk : k ≤ n - x) (h : x + k ≠ n) : x + k < n := by omega
theorem gal_lt2 {x k n : Nat} (hx : x < n) (hk : k ≤ n - x) (h : x + k ≠ n) (h2 : x + k + 1 ≠ n) : x + k + 1 < n := by omega
noncomputable def OutOk {O X Y Z δ : Type} (J K : X → Y → Z → Prop) (R : O → Prop) : ForInStep (Option O × X × Y × Z × δ) → Prop
  | .done (some o, _) => R o
  | .done (none, x, y, z, _) => K x y z
  | .yield (none, x, y, z, _) => J x y z
  | .yield (some _, _) => False
theorem s_loop {O X Y Z δ α : Type} {n : Nat} {f : Nat → Option O × X × Y × Z × δ → StateT SortSt Sem (ForInStep (Option O × X × Y × Z × δ))} {F : Option O × X × Y × Z × δ → StateT SortSt Sem α} {Q : α → SortSt → Prop} {x : X} {y : Y} {z : Z} {d : δ}
    (L : SortSt → Prop) (J : Nat → X → Y → Z → Prop) (K : X → Y → Z → Prop) (R : O → Prop)
    (step : ∀ i st' x y z d, L st' → J i x y z → wpS (model prog w) A E s (f i (none, x, y, z, d)) (fun r st'' => L st'' ∧ OutOk (J (i + 1)) K R r) st')
    (fin : ∀ x y z, J (max 0 n) x y z → K x y z)
    (post1 : ∀ o c st', L st' → R o → wpS (model prog w) A E s (F (some o, c)) Q st')
    (post2 : ∀ x y z d st', L st' → K x y z → wpS (model prog w) A E s (F (none, x, y, z, d)) Q st')
    (h0 : L st) (h1 : J 0 x y z) : wpS (model prog w) A E s (forIn [0:n] (none, x, y, z, d) f >>= F) Q st := by
  refine wpS_bind (wpS_mono (wpS_forRange (I := fun i c st' => L st' ∧ OutOk (J i) K R (.yield c)) (Q := fun c st' => L st' ∧ OutOk (J 0) K R (.done c)) ?_ ?_ ⟨h0, h1⟩) ?_)
  · rintro i ⟨_ | o, x, y, z, d⟩ st' _ _ ⟨l, j⟩
    · refine wpS_mono (step i st' x y z d l j) ?_
      rintro (⟨_ | o, c⟩ | ⟨_ | o, c⟩) st2 q
      · exact q
      · exact q
      · exact q
      · exact q.2.elim
    · exact j.elim
  · rintro ⟨_ | o, x, y, z, d⟩ st' ⟨l, j⟩
    · exact ⟨l, fin x y z j⟩
    · exact j.elim
  · rintro ⟨_ | o, c⟩ st' ⟨l, q⟩
    · exact post2 _ _ _ _ _ l q
    · exact post1 _ _ _ l q
structure Lo (a₀ a b : Array Keyed) (i : Nat) (out : Array Keyed) (ia ib : Nat) : Prop where
  m : AllIn a₀ out
  h1 : ia + 1 < a.size
  h2 : ib < b.size
  h3 : i < ia + ib
theorem Lo.no {out a b : Array Keyed} {ia ib i : Nat} {P : Prop} (h : Lo a₀ a b i out ia ib) (hi : a.size + b.size ≤ i) : P := absurd h.h3 (by have := h.h1; have := h.h2; omega)
theorem mergeLo_ok {a b : Array Keyed} {p : Array (Nat × Nat × Nat)} {Q : Array Keyed → SortSt → Prop} (H : Asks prog w A s κ a₀) (B : Like κ a₀ p st) (ha : AllIn a₀ a) (hb : AllIn a₀ b) (h1 : 1 ≤ a.size) (h2 : 1 ≤ b.size)
    (h : ∀ out st', AllIn a₀ out → Like κ a₀ p st' → Q out st') : wpS (model prog w) A E s (mergeLoP a b) Q st := by
  refine wpS_bind (wpS_lift (wpAny_rule ⟨rfl, ?_⟩))
  refine wpS_bind (s_elem hb h2 fun x hx => ?_)
  refine s_if (fun _ => wpS_pure (h _ _ ((AllIn.one hx).app ha.extract |>.app hb.extract) B)) fun c1 => ?_
  refine s_if (fun _ => wpS_pure (h _ _ ((AllIn.one hx).app hb.extract |>.app ha.extract) B)) fun c2 => ?_
  have n1 : 1 < b.size := Nat.lt_of_le_of_ne h2 (ne_beq c1)
  have n2 : 1 < a.size := Nat.lt_of_le_of_ne h1 (ne_beq c2)
  refine wpS_bind (wpS_get ?_)
  refine s_loop (L := Like κ a₀ p) (J := Lo a₀ a b) (K := fun _ _ _ => False) (R := AllIn a₀) ?step (fun _ _ _ q => q.no (Nat.le_max_right ..)) (fun o c st' L hr => wpS_pure (h _ _ hr L)) (fun _ _ _ _ _ _ f => f.elim) B ⟨AllIn.one hx, n2, n1, Nat.one_pos⟩
  clear B
  intro i st' out ia ib mg L q
  refine s_loop (L := Like κ a₀ p) (J := fun j => Lo a₀ a b (i + j)) (K := Lo a₀ a b (i + 1)) (R := AllIn a₀) ?jstep (fun _ _ _ q => q.no (Nat.le_trans (Nat.le_max_right ..) (Nat.le_add_left ..))) (fun o c st' L hr => wpS_pure ⟨L, hr⟩) ?jpost L q
  case jstep =>
    clear q L
    intro j st' out ia ib d L q
    have g := lo_step q.h3
    refine wpS_bind (s_elem hb q.h2 fun y hy => wpS_bind (s_elem ha (Nat.lt_of_succ_lt q.h1) fun z hz => wpS_bind (s_lt H L.1 hy hz fun c => ?_)))
    refine s_if (fun _ => wpS_bind (s_elem hb q.h2 fun y hy => ?_)) fun _ => wpS_bind (s_elem ha (Nat.lt_of_succ_lt q.h1) fun z hz => ?_)
    · have m := q.m.push hy
      refine s_if (fun _ => wpS_pure ⟨L, m.app ha.extract |>.app hb.extract⟩) fun c1 => ?_
      have e1 : ib + 1 < b.size := Nat.lt_of_le_of_ne q.h2 (ne_beq c1)
      exact s_if (fun _ => wpS_pure ⟨L, m, q.h1, e1, g.1.1⟩) fun _ => wpS_pure ⟨L, m, q.h1, e1, g.1.2⟩
    · have m := q.m.push hz
      refine s_if (fun _ => wpS_pure ⟨L, m.app hb.extract |>.app ha.extract⟩) fun c1 => ?_
      have e1 : ia + 1 + 1 < a.size := Nat.lt_of_le_of_ne q.h1 (ne_beq c1)
      exact s_if (fun _ => wpS_pure ⟨L, m, e1, q.h2, g.2.1⟩) fun _ => wpS_pure ⟨L, m, e1, q.h2, g.2.2⟩
  case jpost =>
    clear q L
    intro out ia ib d st' L q
    refine wpS_bind (wpS_lift (wpAny_rule ⟨rfl, ?_⟩))
    refine s_loop (L := Like κ a₀ p) (J := fun _ => Lo a₀ a b (i + 1)) (K := Lo a₀ a b (i + 1)) (R := AllIn a₀) ?kstep (fun _ _ _ q => q) (fun o c st' L hr => wpS_pure ⟨L, hr⟩) (fun _ _ _ _ _ L q => wpS_bind (wpS_modify (wpS_pure ⟨L.gal _, q⟩))) L q
    clear q L
    intro k st3 out ia ib d L q
    refine s_eq fun m' hm => ?_
    extract_lets _ _ _ _ _ _ _ _ _ _ _ _ jp _ at hm
    refine s_jp (F := jp ()) hm fun g => ?_
    clear hm
    refine wpS_bind (wpS_modify ?_)
    replace L := L.gal g
    have ia1 := Nat.lt_of_succ_lt q.h1
    have f := fits ia1
    refine wpS_bind (s_elem hb q.h2 fun y hy => wpS_bind (gallop_ok H L.1 hy ha f.1 f.2 fun k hk => ?_))
    refine s_eq fun m' hm => ?_
    dsimp -zeta only at hm
    extract_lets _ jp2 at hm
    refine s_jp2 (F := jp2 ()) (fun out ia' => AllIn a₀ out ∧ ia' + 1 < a.size ∧ ia ≤ ia') ?_ ?_
    · intro out ia' p1
      clear hm
      refine wpS_bind (s_elem hb q.h2 fun y hy => ?_)
      have m := p1.1.push hy
      have i1 := Nat.lt_of_succ_lt p1.2.1
      refine s_if (fun _ => wpS_pure ⟨L, m.app ha.extract |>.app hb.extract⟩) fun c1 => ?_
      have e1 : ib + 1 < b.size := Nat.lt_of_le_of_ne q.h2 (ne_beq c1)
      have f := fits e1
      refine wpS_bind (s_elem ha i1 fun z hz => wpS_bind (gallop_ok H L.1 hz hb f.1 f.2 fun k hk => ?_))
      refine s_eq fun m' hm => ?_
      dsimp -zeta only at hm
      extract_lets _ _ jp3 at hm
      refine s_jp2 (F := jp3 ()) (fun out ib' => AllIn a₀ out ∧ ib' < b.size ∧ ib ≤ ib') ?_ ?_
      · intro out ib' p2
        clear hm
        refine wpS_bind (s_elem ha i1 fun z hz => ?_)
        have m := p2.1.push hz
        refine s_if (fun _ => wpS_pure ⟨L, m.app hb.extract |>.app ha.extract⟩) fun c1 => ?_
        have e1 : ia' + 1 + 1 < a.size := Nat.lt_of_le_of_ne p1.2.1 (ne_beq c1)
        have e2 : i + 1 < (ia' + 1) + ib' := Nat.lt_of_lt_of_le q.h3 (Nat.add_le_add (Nat.le_succ_of_le p1.2.2) p2.2.2)
        exact s_if (fun _ => wpS_pure ⟨L, m, e1, p2.2.1, e2⟩) fun _ => wpS_pure ⟨L, m, e1, p2.2.1, e2⟩
      · intro hj
        clear_value jp3
        subst hm
        refine s_if (fun _ => ?_) fun _ => hj _ _ ⟨m, e1, Nat.le_succ ib⟩
        have m3 := m.app (hb.extract (i := ib + 1) (j := ib + 1 + k))
        exact s_if (fun _ => wpS_pure ⟨L, m3.app ha.extract |>.app hb.extract⟩) fun c1 => hj _ _ ⟨m3, gal_lt e1 hk (ne_beq c1), Nat.le_trans (Nat.le_succ ib) (Nat.le_add_right _ k)⟩
    · intro hj
      clear_value jp2
      subst hm
      refine s_if (fun _ => ?_) fun _ => hj _ _ ⟨q.m, q.h1, Nat.le_refl _⟩
      have m3 := q.m.app (ha.extract (i := ia) (j := ia + k))
      refine s_if (fun _ => wpS_pure ⟨L, m3.app hb.extract |>.app ha.extract⟩) fun c1 => ?_
      exact s_if (fun _ => wpS_pure ⟨L, m3.app ha.extract |>.app hb.extract⟩) fun c2 => hj _ _ ⟨m3, gal_lt2 ia1 hk (ne_beq c2) (ne_beq c1), Nat.le_add_right _ k⟩
end
end Mine
namespace Mine
open PySem PySem.W PySem.Calls PyProof.Rows

section
variable {prog : Program} {w : World} {A : Around} {E : Value → Shared → Prop} {s : Shared} {κ : SortKind} {a₀ : Array Keyed} {st : SortSt}
theorem hi_a {n A : Nat} (h : 1 ≤ n ∧ n ≤ A) (e : n - 1 ≠ 0) : 1 ≤ n - 1 ∧ n - 1 ≤ A := by omega
theorem hi_b {n B : Nat} (h : 2 ≤ n ∧ n ≤ B) (e : n - 1 ≠ 1) : 2 ≤ n - 1 ∧ n - 1 ≤ B := by omega
theorem hi_less {x y i j s : Nat} (h1 : 1 ≤ x) (h2 : 1 ≤ y) (h : x + y + (i + j) < s) : (x - 1 + y + (i + 1) < s ∧ x - 1 + y + (i + (j + 1)) < s) ∧ x + (y - 1) + (i + 1) < s ∧ x + (y - 1) + (i + (j + 1)) < s := by omega
theorem pred_lt {x n : Nat} (h : 1 ≤ x) (h' : x ≤ n) : x - 1 < n := by omega
theorem zero_fits {x n : Nat} (h : x ≤ n) : 0 + x ≤ n := by omega
theorem hi_fall {x y x' y' i s : Nat} (h : x + y + (i + 1) < s) (hx : x' ≤ x) (hy : y' ≤ y - 1) : x' - 1 + y' + (i + 1) < s := by omega
theorem two_of {k : Nat} (h : k ≠ 1) (h' : k ≠ 0) : 2 ≤ k := by omega
theorem hi_start {x y : Nat} (h : 1 ≤ x) : x - 1 + y + 0 < x + y := by omega
theorem mergeHi_ok {a b : Array Keyed} {p : Array (Nat × Nat × Nat)} {Q : Array Keyed → SortSt → Prop} (H : Asks prog w A s κ a₀) (B : Like κ a₀ p st) (ha : AllIn a₀ a) (hb : AllIn a₀ b) (h1 : 1 ≤ a.size) (h2 : 1 ≤ b.size)
    (h : ∀ out st', AllIn a₀ out → Like κ a₀ p st' → Q out st') : wpS (model prog w) A E s (mergeHiP a b) Q st := by
  refine wpS_bind (wpS_lift (wpAny_rule ⟨rfl, ?_⟩))
  refine wpS_bind (s_elem ha (pred_lt h1 (Nat.le_refl _)) fun x hx => ?_)
  refine s_if (fun _ => wpS_pure (h _ _ (ha.extract.app hb.extract |>.app (AllIn.one hx).rev) B)) fun c1 => ?_
  refine s_if (fun _ => wpS_pure (h _ _ (hb.extract.app ha.extract |>.app (AllIn.one hx).rev) B)) fun c2 => ?_
  have n1 : a.size - 1 ≠ 0 := ne_beq c1
  have n2 : b.size ≠ 1 := ne_beq c2
  refine wpS_bind (wpS_get ?_)
  refine wpS_bind (wpS_mono (wpS_forRange
    (I := fun i c st' => Like κ a₀ p st' ∧ ∃ na nb out mg, c = (none, na, nb, out, mg) ∧ AllIn a₀ out ∧ (1 ≤ na ∧ na ≤ a.size) ∧ (2 ≤ nb ∧ nb ≤ b.size) ∧ na + nb + i < a.size + b.size)
    (Q := fun c st' => Like κ a₀ p st' ∧ ∃ r c', c = (some r, c') ∧ AllIn a₀ r) ?step ?fin ⟨B, _, _, _, _, rfl, AllIn.one hx, ⟨Nat.one_le_iff_ne_zero.mpr n1, Nat.sub_le _ _⟩, ⟨Nat.lt_of_le_of_ne h2 (Ne.symm n2), Nat.le_refl _⟩, hi_start h1⟩) ?post)
  case post =>
    rintro c st' ⟨B', r, c', rfl, hr⟩
    exact wpS_pure (h _ _ hr B')
  case fin =>
    rintro c st' ⟨_, na, nb, out, mg, rfl, _, h1, h2, h3⟩
    exfalso; omega
  case step =>
    rintro i c st' _ hi ⟨B', na, nb, out, mg, rfl, ho, h1, h2, h3⟩
    refine wpS_bind (wpS_mono (wpS_forRange
      (I := fun j c st' => Like κ a₀ p st' ∧ ∃ na nb out ac bc, c = (none, na, nb, out, ac, bc) ∧ AllIn a₀ out ∧ (1 ≤ na ∧ na ≤ a.size) ∧ (2 ≤ nb ∧ nb ≤ b.size) ∧ na + nb + (i + j) < a.size + b.size)
      (Q := fun c st' => Like κ a₀ p st' ∧ ((∃ r c', c = (some r, c') ∧ AllIn a₀ r) ∨ ∃ na nb out ac bc, c = (none, na, nb, out, ac, bc) ∧ AllIn a₀ out ∧ (1 ≤ na ∧ na ≤ a.size) ∧ (2 ≤ nb ∧ nb ≤ b.size) ∧ na + nb + (i + 1) < a.size + b.size)) ?jstep ?jfin ⟨B', _, _, _, _, _, rfl, ho, h1, h2, h3⟩) ?jpost)
    case jfin =>
      rintro c st' ⟨_, na, nb, out, ac, bc, rfl, _, h1, h2, h3⟩
      exfalso; omega
    case jstep =>
      clear ho h1 h2 h3
      rintro j c st'' _ hj ⟨B', na, nb, out, ac, bc, rfl, ho, h1, h2, h3⟩
      have l1 := pred_lt (Nat.le_of_succ_le h2.1) h2.2
      have l2 := pred_lt h1.1 h1.2
      have g := hi_less h1.1 (Nat.le_of_succ_le h2.1) h3
      refine wpS_bind (s_elem hb l1 fun y hy => wpS_bind (s_elem ha l2 fun z hz => wpS_bind (s_lt H B'.1 hy hz fun c => ?_)))
      refine s_if (fun _ => wpS_bind (s_elem ha l2 fun y hy => ?_)) fun _ => wpS_bind (s_elem hb l1 fun z hz => ?_)
      · refine s_if (fun _ => wpS_pure ⟨B', .inl ⟨_, _, rfl, ha.extract.app hb.extract |>.app (ho.push hy).rev⟩⟩) fun c1 => ?_
        have e1 := hi_a h1 (ne_beq c1)
        exact s_if (fun _ => wpS_pure ⟨B', .inr ⟨_, _, _, _, _, rfl, ho.push hy, e1, h2, g.1.1⟩⟩) fun _ => wpS_pure ⟨B', _, _, _, _, _, rfl, ho.push hy, e1, h2, g.1.2⟩
      · refine s_if (fun _ => wpS_pure ⟨B', .inl ⟨_, _, rfl, hb.extract.app ha.extract |>.app (ho.push hz).rev⟩⟩) fun c1 => ?_
        have e1 := hi_b h2 (ne_beq c1)
        exact s_if (fun _ => wpS_pure ⟨B', .inr ⟨_, _, _, _, _, rfl, ho.push hz, h1, e1, g.2.1⟩⟩) fun _ => wpS_pure ⟨B', _, _, _, _, _, rfl, ho.push hz, h1, e1, g.2.2⟩
    case jpost =>
      clear ho h1 h2 h3
      rintro c st'' ⟨B', hc⟩
      rcases hc with ⟨r, c', rfl, hr⟩ | ⟨na, nb, out, ac, bc, rfl, ho, h1, h2, h3⟩
      · exact wpS_pure ⟨B', _, _, rfl, hr⟩
      · refine wpS_bind (wpS_lift (wpAny_rule ⟨rfl, ?_⟩))
        refine wpS_bind (wpS_mono (wpS_forRange
          (I := fun _ c st' => Like κ a₀ p st' ∧ ∃ na nb out mg ac bc, c = (none, na, nb, out, mg, ac, bc) ∧ AllIn a₀ out ∧ (1 ≤ na ∧ na ≤ a.size) ∧ (2 ≤ nb ∧ nb ≤ b.size) ∧ na + nb + (i + 1) < a.size + b.size)
          (Q := fun c st' => Like κ a₀ p st' ∧ ((∃ r c', c = (some r, c') ∧ AllIn a₀ r) ∨ ∃ na nb out mg ac bc, c = (none, na, nb, out, mg, ac, bc) ∧ AllIn a₀ out ∧ (1 ≤ na ∧ na ≤ a.size) ∧ (2 ≤ nb ∧ nb ≤ b.size) ∧ na + nb + (i + 1) < a.size + b.size)) ?kstep (fun _ _ hh => ⟨hh.1, .inr hh.2⟩) ⟨B', _, _, _, _, _, _, rfl, ho, h1, h2, h3⟩) ?kpost)
        case kpost =>
          clear ho h1 h2 h3
          rintro c st3 ⟨B', hc⟩
          rcases hc with ⟨r, c', rfl, hr⟩ | ⟨na, nb, out, mg, ac, bc, rfl, ho, h1, h2, h3⟩
          · exact wpS_pure ⟨B', _, _, rfl, hr⟩
          · exact wpS_bind (wpS_modify (wpS_pure ⟨B'.gal _, _, _, _, _, rfl, ho, h1, h2, h3⟩))
        case kstep =>
          clear ho h1 h2 h3
          rintro k c st3 _ hk ⟨B', na, nb, out, mg, ac, bc, rfl, ho, h1, h2, h3⟩
          refine s_eq fun m' hm => ?_
          extract_lets _ _ _ _ _ _ _ _ _ _ _ _ jp _ at hm
          refine s_jp (F := jp ()) hm fun g => ?_
          clear hm
          refine wpS_bind (wpS_modify ?_)
          have B2 := B'.gal g
          have l1 := pred_lt (Nat.le_of_succ_le h2.1) h2.2
          refine wpS_bind (s_elem hb l1 fun y hy => wpS_bind (gallop_ok H B2.1 hy ha (zero_fits h1.2) (pred_lt h1.1 (Nat.le_refl _)) fun k hk => ?_))
          refine s_eq fun m' hm => ?_
          dsimp -zeta only at hm
          extract_lets _ _ jp2 at hm
          refine s_jp2 (F := jp2 ()) (fun na' out => AllIn a₀ out ∧ 1 ≤ na' ∧ na' ≤ na) ?_ ?_
          · rintro na' out ⟨ho, h1', hge⟩
            clear hm
            refine wpS_bind (s_elem hb l1 fun y hy => ?_)
            refine s_if (fun _ => wpS_pure ⟨B2, .inl ⟨_, _, rfl, hb.extract.app ha.extract |>.app (ho.push hy).rev⟩⟩) fun c1 => ?_
            have e1 := hi_b h2 (ne_beq c1)
            have l2 := pred_lt h1' (Nat.le_trans hge h1.2)
            refine wpS_bind (s_elem ha l2 fun z hz => wpS_bind (gallop_ok H B2.1 hz hb (zero_fits e1.2) (pred_lt (Nat.le_of_succ_le e1.1) (Nat.le_refl _)) fun k hk => ?_))
            refine s_eq fun m' hm => ?_
            dsimp -zeta only at hm
            extract_lets _ _ _ jp3 at hm
            refine s_jp2 (F := jp3 ()) (fun nb' out => AllIn a₀ out ∧ 2 ≤ nb' ∧ nb' ≤ nb - 1) ?_ ?_
            · rintro nb' out ⟨ho, h2', hge2⟩
              clear hm
              refine wpS_bind (s_elem ha l2 fun z hz => ?_)
              refine s_if (fun _ => wpS_pure ⟨B2, .inl ⟨_, _, rfl, ha.extract.app hb.extract |>.app (ho.push hz).rev⟩⟩) fun c1 => ?_
              have e4 := hi_a ⟨h1', Nat.le_trans hge h1.2⟩ (ne_beq c1)
              have e2 : 2 ≤ nb' ∧ nb' ≤ b.size := ⟨h2', Nat.le_trans hge2 e1.2⟩
              have e3 := hi_fall h3 hge hge2
              exact s_if (fun _ => wpS_pure ⟨B2, .inr ⟨_, _, _, _, _, _, rfl, ho.push hz, e4, e2, e3⟩⟩) fun _ => wpS_pure ⟨B2, _, _, _, _, _, _, rfl, ho.push hz, e4, e2, e3⟩
            · intro hj
              clear_value jp3
              subst hm
              refine s_if (fun _ => ?_) fun _ => hj _ _ ⟨ho.push hy, e1.1, Nat.le_refl _⟩
              refine s_if (fun _ => wpS_pure ⟨B2, .inl ⟨_, _, rfl, hb.extract.app ha.extract |>.app ((ho.push hy).app hb.extract.rev).rev⟩⟩) fun c1 => ?_
              refine s_if (fun _ => wpS_pure ⟨B2, .inl ⟨_, _, rfl, ha.extract.app hb.extract |>.app ((ho.push hy).app hb.extract.rev).rev⟩⟩) fun c2 => hj _ _ ⟨(ho.push hy).app hb.extract.rev, two_of (ne_beq c1) (ne_beq c2), hk⟩
          · intro hj
            clear_value jp2
            subst hm
            refine s_if (fun _ => ?_) fun _ => hj _ _ ⟨ho, h1.1, Nat.le_refl _⟩
            refine s_if (fun _ => wpS_pure ⟨B2, .inl ⟨_, _, rfl, ha.extract.app hb.extract |>.app (ho.app ha.extract.rev).rev⟩⟩) fun c1 => hj _ _ ⟨ho.app ha.extract.rev, Nat.one_le_iff_ne_zero.mpr (ne_beq c1), hk⟩
end
end Mine
namespace Mine
open PySem PySem.W PySem.Calls PyProof.Rows

noncomputable def Runs : Nat → List (Nat × Nat × Nat) → Nat → Prop
  | s, [], e => s = e
  | s, (a, n, _) :: r, e => a = s ∧ 1 ≤ n ∧ Runs (s + n) r e
theorem Runs.le : ∀ {l : List (Nat × Nat × Nat)} {s e : Nat}, Runs s l e → s ≤ e
  | [], _, _, h => Nat.le_of_eq h
  | (_, n, _) :: _, s, _, h => Nat.le_trans (Nat.le_add_right s n) h.2.2.le
theorem Runs.snoc {n p : Nat} (hn : 1 ≤ n) : ∀ {l : List (Nat × Nat × Nat)} {s e : Nat}, Runs s l e → Runs s (l ++ [(e, n, p)]) (e + n)
  | [], _, _, h => ⟨h.symm, hn, by rw [show _ = _ from h]; rfl⟩
  | (_, _, _) :: _, _, _, h => ⟨h.1, h.2.1, h.2.2.snoc hn⟩
theorem Runs.pw {f : Nat × Nat × Nat → Nat × Nat × Nat} (hf : ∀ a n p, ∃ q, f (a, n, p) = (a, n, q)) : ∀ {l : List (Nat × Nat × Nat)} {k s e : Nat}, Runs s l e → Runs s (l.modify k f) e
  | [], k, _, _, h => by rw [List.modify_nil]; exact h
  | (a, n, p) :: l, 0, s, e, h => by
    obtain ⟨q, hq⟩ := hf a n p
    rw [List.modify_zero_cons, hq]
    exact h
  | (a, n, p) :: l, k + 1, s, e, h => by
    rw [List.modify_succ_cons]
    exact ⟨h.1, h.2.1, h.2.2.pw hf⟩
theorem Runs.merge {sa na pw sb nb q : Nat} : ∀ {l : List (Nat × Nat × Nat)} {i s e : Nat}, Runs s l e → l[i]? = some (sa, na, pw) → l[i + 1]? = some (sb, nb, q) →
    (sb = sa + na ∧ 1 ≤ na ∧ 1 ≤ nb ∧ sb + nb ≤ e) ∧ Runs s ((l.set i (sa, na + nb, pw)).eraseIdx (i + 1)) e
  | [], _, _, _, _, h1, _ => by cases h1
  | [_], 0, _, _, _, _, h2 => by cases h2
  | x :: y :: l, 0, s, e, h, h1, h2 => by
    cases h1; cases h2
    obtain ⟨rfl, g1, rfl, g2, g3⟩ := h
    exact ⟨⟨rfl, g1, g2, g3.le⟩, rfl, Nat.le_trans g1 (Nat.le_add_right _ _), by rw [← Nat.add_assoc]; exact g3⟩
  | (a, n, p) :: l, i + 1, s, e, h, h1, h2 => by
    obtain ⟨rfl, g1, g2⟩ := h
    obtain ⟨g3, g4⟩ := g2.merge (i := i) h1 h2
    exact ⟨g3, rfl, g1, g4⟩
theorem fold_in {a₀ : Array Keyed} {f : Array Keyed → Keyed × Nat → Array Keyed} (hf : ∀ xs q, q.1 ∈ a₀ → AllIn a₀ xs → AllIn a₀ (f xs q) ∧ (f xs q).size = xs.size) :
    ∀ (l : List (Keyed × Nat)) (xs : Array Keyed), (∀ q ∈ l, q.1 ∈ a₀) → AllIn a₀ xs → AllIn a₀ (l.foldl f xs) ∧ (l.foldl f xs).size = xs.size
  | [], _, _, h => ⟨h, rfl⟩
  | q :: l, xs, hl, h => by
    have g := hf xs q (hl q (.head _)) h
    have g2 := fold_in hf l _ (fun r hr => hl r (.tail _ hr)) g.1
    exact ⟨g2.1, g2.2.trans g.2⟩
theorem AllIn.set {a₀ xs : Array Keyed} {i : Nat} {x : Keyed} (h : AllIn a₀ xs) (hx : x ∈ a₀) : AllIn a₀ (xs.setIfInBounds i x) := fun y hy => by
  rcases Array.mem_or_eq_of_mem_setIfInBounds hy with hy | rfl
  · exact h y hy
  · exact hx
theorem AllIn.perm {a₀ xs ys : Array Keyed} (h : AllIn a₀ xs) (hp : ys.Perm xs) : AllIn a₀ ys := fun y hy => h y (hp.mem_iff.mp hy)
section
variable {prog : Program} {w : World} {A : Around} {E : Value → Shared → Prop} {s : Shared} {κ : SortKind} {a₀ : Array Keyed} {st : SortSt}
theorem mergeAt_ok {i e : Nat} {Q : Bool → SortSt → Prop} (H : Asks prog w A s κ a₀) (B : SOk κ a₀ st) (hr : Runs 0 (pendingOf st).toList e) (he : e ≤ a₀.size) (hi : i + 1 < (pendingOf st).size)
    (h : ∀ st', SOk κ a₀ st' → Runs 0 (pendingOf st').toList e → Q true st') : wpS (model prog w) A E s (mergeAt' i) Q st := by
  obtain ⟨⟨sa, na, pw⟩, h1⟩ : ∃ x, (pendingOf st)[i]? = some x := ⟨_, getElem?_pos (pendingOf st) i (Nat.lt_of_succ_lt hi)⟩
  obtain ⟨⟨sb, nb, q⟩, h2⟩ : ∃ x, (pendingOf st)[i + 1]? = some x := ⟨_, getElem?_pos (pendingOf st) (i + 1) hi⟩
  obtain ⟨⟨hsb, hna, hnb, hle⟩, hr'⟩ := hr.merge (by rw [Array.getElem?_toList]; exact h1) (by rw [Array.getElem?_toList]; exact h2)
  refine wpS_bind (wpS_get ?_)
  rw [h1, h2]
  dsimp only
  refine wpS_bind (wpS_modify ?_)
  have B1 : SOk κ a₀ (setPending st (((pendingOf st).setIfInBounds i (sa, na + nb, pw)).eraseIdxIfInBounds (i + 1))) := ⟨B.kind, B.failed, B.size, B.mem⟩
  have hr2 : Runs 0 (((pendingOf st).setIfInBounds i (sa, na + nb, pw)).eraseIdxIfInBounds (i + 1)).toList e := by
    rw [Array.toList_eraseIdxIfInBounds, Array.toList_setIfInBounds]; exact hr'
  have hz : (arrOf st).size = a₀.size := B.size
  refine wpS_bind (s_elem B.mem (show sb < (arrOf st).size by (first | lia | omega)) fun x hx => wpS_bind (gallop_ok H B1 hx B.mem (show sa + na ≤ (arrOf st).size by (first | lia | omega)) hna fun k hk => ?_))
  refine s_if (fun _ => wpS_pure (h _ B1 hr2)) fun c1 => ?_
  have e1 : na - k ≠ 0 := ne_beq c1
  refine wpS_bind (s_elem B.mem (show sa + k + (na - k) - 1 < (arrOf st).size by (first | lia | omega)) fun y hy => wpS_bind (gallop_ok H B1 hy B.mem (show sb + nb ≤ (arrOf st).size by (first | lia | omega)) (show nb - 1 < nb by (first | lia | omega)) fun k' hk' => ?_))
  refine s_if (fun _ => wpS_pure (h _ B1 hr2)) fun c2 => ?_
  have e2 : k' ≠ 0 := ne_beq c2
  have fin : ∀ (out : Array Keyed) (st' : SortSt), AllIn a₀ out → Like κ a₀ (((pendingOf st).setIfInBounds i (sa, na + nb, pw)).eraseIdxIfInBounds (i + 1)) st' →
      Q (failedOf st').isNone (setArr st' (out.toList.zipIdx.foldl (fun a x => a.setIfInBounds (sa + k + x.snd) x.fst) (arrOf st'))) := by
    rintro out st' ho ⟨B', hp⟩
    have f := fold_in (a₀ := a₀) (f := fun a x => a.setIfInBounds (sa + k + x.snd) x.fst) (fun xs q hq hx => ⟨hx.set hq, Array.size_setIfInBounds⟩) out.toList.zipIdx (arrOf st')
      (fun q hq => ho _ (by
        obtain ⟨j, hj, rfl⟩ := List.mem_iff_getElem.mp hq
        rw [List.getElem_zipIdx]
        exact Array.mem_def.mpr (List.getElem_mem _))) B'.mem
    rw [B'.failed]
    refine h _ ⟨B'.kind, B'.failed, f.2.trans B'.size, f.1⟩ ?_
    show Runs 0 (pendingOf st').toList e
    rw [hp]
    exact hr2
  have s1 : 1 ≤ ((arrOf st).extract (sa + k) sb).size := by rw [Array.size_extract]; (first | lia | omega)
  have s2 : 1 ≤ ((arrOf st).extract sb (sb + k')).size := by rw [Array.size_extract]; (first | lia | omega)
  refine s_if (fun _ => ?_) fun _ => ?_
  · exact wpS_bind (mergeLo_ok H ⟨B1, rfl⟩ B.mem.extract B.mem.extract s1 s2 fun out st' ho B' => wpS_bind (wpS_modify (wpS_bind (wpS_get (wpS_pure (fin out st' ho B'))))))
  · exact wpS_bind (mergeHi_ok H ⟨B1, rfl⟩ B.mem.extract B.mem.extract s1 s2 fun out st' ho B' => wpS_bind (wpS_modify (wpS_bind (wpS_get (wpS_pure (fin out st' ho B'))))))
end
end Mine
namespace Mine
open PySem PySem.W PySem.Calls PyProof.Rows

section
variable {prog : Program} {w : World} {A : Around} {E : Value → Shared → Prop} {s : Shared} {κ : SortKind} {a₀ : Array Keyed} {st : SortSt} {p : Array (Nat × Nat × Nat)}
theorem Like.arr {xs : Array Keyed} (B : Like κ a₀ p st) (hp : xs.Perm (arrOf st)) : Like κ a₀ p (setArr st xs) := ⟨⟨B.1.kind, B.1.failed, hp.size_eq.trans B.1.size, B.1.mem.perm hp⟩, B.2⟩
theorem s_jpS {α β : Type} {F : β → StateT SortSt Sem α} {m : StateT SortSt Sem α} {Q : α → SortSt → Prop} (hF : ∀ st', Like κ a₀ p st' → ∀ x, wpS (model prog w) A E s (F x) Q st')
    (h : (∀ st', Like κ a₀ p st' → ∀ x, wpS (model prog w) A E s (F x) Q st') → wpS (model prog w) A E s m Q st) : wpS (model prog w) A E s m Q st := h hF
theorem rev_ok {i j : Nat} {Q : Unit → SortSt → Prop} (B : Like κ a₀ p st) (h : ∀ st', Like κ a₀ p st' → Q () st') : wpS (model prog w) A E s (reverseSlice' i j) Q st :=
  wpS_reverse (h _ (B.arr (mirror_perm _ _ _ _)))
theorem binary_ok {lo n ok : Nat} {Q : Bool → SortSt → Prop} (H : Asks prog w A s κ a₀) (B : Like κ a₀ p st) (hn : lo + n ≤ a₀.size) (h : ∀ st', Like κ a₀ p st' → Q true st') : wpS (model prog w) A E s (binarySort' lo n ok) Q st := by
  rw [binarySort'_eq]
  refine wpS_bind (wpS_mono (wpS_forRange (I := fun _ c st' => c = (none, ()) ∧ Like κ a₀ p st') (Q := fun c st' => c = (none, ()) ∧ Like κ a₀ p st') ?_ (fun _ _ hh => hh) ⟨rfl, B⟩) ?_)
  · rintro k c st' _ hk ⟨rfl, B'⟩
    refine wpS_bind (wpS_mono (wpS_forRange (I := fun _ c st'' => st'' = st' ∧ ∃ l r, c = (none, l, r) ∧ r ≤ k) (Q := fun c st'' => st'' = st' ∧ ∃ l r, c = (none, l, r) ∧ r ≤ k) ?_ (fun _ _ hh => hh) ⟨rfl, _, _, rfl, Nat.le_refl _⟩) ?_)
    · rintro x c st'' _ _ ⟨rfl, l, r, rfl, hr⟩
      refine s_if (fun _ => wpS_pure ⟨rfl, l, r, rfl, hr⟩) fun hlr => ?_
      have h1 : lo + k < a₀.size := by (first | lia | omega)
      have h3 : (l + r) / 2 ≤ k := by have : ¬ l ≥ r := hlr; (first | lia | omega)
      have h2 : lo + (l + r) / 2 < a₀.size := by (first | lia | omega)
      exact wpS_bind (s_ltAt H B'.1 h1 h2 fun b => s_if (fun _ => wpS_pure ⟨rfl, _, _, rfl, h3⟩) fun _ => wpS_pure ⟨rfl, _, _, rfl, hr⟩)
    · rintro c st'' ⟨rfl, l, r, rfl, hr⟩
      refine wpS_bind (wpS_modify (wpS_pure ⟨rfl, B'.arr (bubble_perm _ _ _)⟩))
  · rintro c st' ⟨rfl, B'⟩
    exact wpS_pure (h _ B')
theorem count_ok {lo nrem : Nat} {Q : Option Nat → SortSt → Prop} (H : Asks prog w A s κ a₀) (B : Like κ a₀ p st) (hn : lo + nrem ≤ a₀.size) (h1 : 1 ≤ nrem) (h : ∀ n st', 1 ≤ n → n ≤ nrem → Like κ a₀ p st' → Q (some n) st') : wpS (model prog w) A E s (countRun' lo nrem) Q st := by
  rw [countRun'_eq]
  refine wpS_bind (wpS_mono (wpS_forRange (I := fun n c st' => st' = st ∧ c = (none, n)) (Q := fun c st' => st' = st ∧ ∃ n, c = (none, n) ∧ 1 ≤ n ∧ n ≤ nrem) ?_ (fun c _ hh => ⟨hh.1, _, hh.2, by (first | lia | omega), by (first | lia | omega)⟩) ⟨rfl, rfl⟩) ?_)
  · rintro n c st' h1 h2 ⟨rfl, rfl⟩
    have l1 : lo + n < a₀.size := by (first | lia | omega)
    have l2 : lo + n - 1 < a₀.size := by (first | lia | omega)
    exact wpS_bind (s_ltAt H B.1 l1 l2 fun b => s_if (fun _ => wpS_pure ⟨rfl, _, rfl, h1, Nat.le_of_lt h2⟩) fun _ => wpS_pure ⟨rfl, rfl⟩)
  rintro c st' ⟨rfl, n, rfl, h2, h3⟩
  refine s_if (fun _ => wpS_pure (h _ _ h2 h3 B)) fun c1 => ?_
  have e1 : n ≠ nrem := ne_beq c1
  refine s_eq fun m' hm => ?_
  dsimp -zeta only at hm
  extract_lets _ _ jp at hm
  refine s_jpS (p := p) (κ := κ) (a₀ := a₀) (F := jp) ?_ ?_
  · clear hm
    rintro st2 B2 _
    refine wpS_bind (wpS_lift (wpAny_rule ⟨rfl, ?_⟩))
    refine wpS_bind (wpS_mono (wpS_forRange (I := fun n c st' => Like κ a₀ p st' ∧ ∃ q, c = (none, n, q)) (Q := fun c st' => Like κ a₀ p st' ∧ ∃ n q, c = (none, n, q) ∧ 1 ≤ n ∧ n ≤ nrem) ?_ (fun c _ hh => ⟨hh.1, _, _, hh.2.choose_spec, show 1 ≤ max (n + 1) nrem by (first | lia | omega), show max (n + 1) nrem ≤ nrem by (first | lia | omega)⟩) ⟨B2, _, rfl⟩) ?_)
    · rintro n' c st' h1' h2 ⟨B', q, rfl⟩
      have h1 : n + 1 ≤ n' := h1'
      have l1 : lo + n' < a₀.size := by (first | lia | omega)
      have l2 : lo + n' - 1 < a₀.size := by (first | lia | omega)
      have l3 : 1 ≤ n' := by (first | lia | omega)
      refine wpS_bind (s_ltAt H B'.1 l1 l2 fun b => s_if (fun _ => s_if (fun _ => wpS_bind (rev_ok B' fun st3 B3 => wpS_pure ⟨B3, _, rfl⟩)) fun _ => wpS_pure ⟨B', _, rfl⟩) fun _ => ?_)
      exact wpS_bind (s_ltAt H B'.1 l2 l1 fun b => s_if (fun _ => wpS_pure ⟨B', _, _, rfl, l3, Nat.le_of_lt h2⟩) fun _ => wpS_pure ⟨B', _, rfl⟩)
    · rintro c st' ⟨B', n, q, rfl, h1, h2⟩
      refine s_eq fun m' hm => ?_
      extract_lets r _ _ _ jp2 at hm
      dsimp -zeta only [r] at hm
      refine s_jpS (p := p) (κ := κ) (a₀ := a₀) (F := jp2) ?_ ?_
      · clear hm
        rintro st2 B2 _
        refine wpS_bind (rev_ok B2 fun st3 B3 => wpS_bind (wpS_mono (wpS_forRange (I := fun n c st' => st' = st3 ∧ c = (none, n)) (Q := fun c st' => st' = st3 ∧ ∃ n, c = (none, n) ∧ 1 ≤ n ∧ n ≤ nrem) ?_ (fun c _ hh => ⟨hh.1, _, hh.2, show 1 ≤ max n nrem by (first | lia | omega), show max n nrem ≤ nrem by (first | lia | omega)⟩) ⟨rfl, rfl⟩) ?_))
        · rintro n' c st' h1' h2 ⟨rfl, rfl⟩
          have g1 : n ≤ n' := h1'
          have l1 : lo + n' < a₀.size := by (first | lia | omega)
          have l2 : lo + n' - 1 < a₀.size := by (first | lia | omega)
          have l3 : 1 ≤ n' := by (first | lia | omega)
          exact wpS_bind (s_ltAt H B3.1 l1 l2 fun b => s_if (fun _ => wpS_pure ⟨rfl, _, rfl, l3, Nat.le_of_lt h2⟩) fun _ => wpS_pure ⟨rfl, rfl⟩)
        · rintro c st' ⟨rfl, n, rfl, h1, h2⟩
          exact wpS_pure (h _ _ h1 h2 B3)
      · intro hj
        clear_value jp2
        subst hm
        exact s_if (fun _ => wpS_bind (rev_ok B' fun st3 B3 => hj _ B3 _)) fun _ => hj _ B' _
  · intro hj
    clear_value jp
    subst hm
    refine s_if (fun _ => ?_) fun _ => hj _ B _
    have l1 : lo < a₀.size := by (first | lia | omega)
    have l2 : lo + n - 1 < a₀.size := by (first | lia | omega)
    exact wpS_bind (s_ltAt H B.1 l1 l2 fun b => s_if (fun _ => wpS_pure (h _ _ h2 h3 B)) fun _ => wpS_bind (rev_ok B fun st3 B3 => hj _ B3 _))
end
end Mine
namespace Mine
open PySem PySem.W PySem.Calls PyProof.Rows

section
variable {prog : Program} {w : World} {A : Around} {E : Value → Shared → Prop} {s : Shared} {κ : SortKind} {a₀ : Array Keyed} {st : SortSt}
theorem s_jpG {α β : Type} {F : β → StateT SortSt Sem α} {m : StateT SortSt Sem α} {Q : α → SortSt → Prop} (P : β → SortSt → Prop) (hF : ∀ x st', P x st' → wpS (model prog w) A E s (F x) Q st')
    (h : (∀ x st', P x st' → wpS (model prog w) A E s (F x) Q st') → wpS (model prog w) A E s m Q st) : wpS (model prog w) A E s m Q st := h hF
theorem if_le (c : Prop) [Decidable c] (k : Nat) : (if c then k - 1 else k) ≤ k := by split <;> omega
theorem runs_ok {Q : Unit → SortSt → Prop} (H : Asks prog w A s κ a₀) (B : SOk κ a₀ st) (hp : pendingOf st = #[]) (h : ∀ st', SOk κ a₀ st' → Q () st') : wpS (model prog w) A E s sortRuns' Q st := by
  rw [sortRuns'_eq]
  refine wpS_bind (wpS_get ?_)
  have hz : (arrOf st).size = a₀.size := B.size
  rw [hz]
  refine wpS_bind (wpS_mono (wpS_forRange (I := fun _ c st' => ∃ lo, c = (none, lo) ∧ SOk κ a₀ st' ∧ Runs 0 (pendingOf st').toList lo ∧ lo ≤ a₀.size) (Q := fun c st' => ∃ lo, c = (none, lo) ∧ SOk κ a₀ st' ∧ Runs 0 (pendingOf st').toList lo ∧ lo ≤ a₀.size)
    ?_ (fun _ _ hh => hh) ⟨0, rfl, B, by rw [hp]; rfl, Nat.zero_le _⟩) ?_)
  · rintro x c st' _ _ ⟨lo, rfl, B', hr, hlo⟩
    refine s_if (fun _ => wpS_pure ⟨lo, rfl, B', hr, hlo⟩) fun hlt' => ?_
    have hlt : ¬ lo ≥ a₀.size := hlt'
    have e1 : lo + (a₀.size - lo) ≤ a₀.size := by (first | lia | omega)
    have e2 : 1 ≤ a₀.size - lo := by (first | lia | omega)
    refine wpS_bind (count_ok H (p := pendingOf st') ⟨B', rfl⟩ e1 e2 fun n st2 h1 h2 B2 => ?_)
    have h2' : n ≤ a₀.size - lo := h2
    refine s_eq fun m' hm => ?_
    dsimp -zeta only at hm
    extract_lets _ jp at hm
    refine s_jpG (F := jp ()) (fun n st2 => (1 ≤ n ∧ n ≤ a₀.size - lo) ∧ SOk κ a₀ st2 ∧ pendingOf st2 = pendingOf st') ?_ ?_
    · clear hm
      rintro n st2 ⟨⟨h1, h2⟩, B2, hq⟩
      refine wpS_bind (wpS_get ?_)
      refine s_eq fun m' hm => ?_
      extract_lets _ jp2 at hm
      refine s_jpG (F := jp2) (fun _ st2 => SOk κ a₀ st2 ∧ Runs 0 (pendingOf st2).toList lo) ?_ ?_
      · clear hm
        rintro _ st2 ⟨B2, hr⟩
        refine wpS_bind (wpS_modify (wpS_pure ⟨_, rfl, ⟨B2.kind, B2.failed, B2.size, B2.mem⟩, ?_, ?_⟩))
        · show Runs 0 ((pendingOf st2).push (lo, n, 0)).toList (lo + n)
          rw [Array.toList_push]
          exact hr.snoc h1
        · show lo + n ≤ a₀.size
          (first | lia | omega)
      · intro hj
        clear_value jp2
        subst hm
        have hr2 : Runs 0 (pendingOf st2).toList lo := by rw [hq]; exact hr
        split
        · refine wpS_bind (wpS_mono (wpS_forRange (I := fun _ c st' => c = (none, ()) ∧ SOk κ a₀ st' ∧ Runs 0 (pendingOf st').toList lo) (Q := fun c st' => c = (none, ()) ∧ SOk κ a₀ st' ∧ Runs 0 (pendingOf st').toList lo)
            ?_ (fun _ _ hh => hh) ⟨rfl, B2, hr2⟩) ?_)
          · rintro x c st' _ _ ⟨rfl, B', hr⟩
            refine wpS_bind (wpS_get ?_)
            dsimp only
            split
            · rename_i hs
              refine s_if (fun _ => wpS_pure ⟨rfl, B', hr⟩) fun _ => ?_
              refine wpS_bind (mergeAt_ok H B' hr hlo ?_ fun st2 B2 hr2 => wpS_pure ⟨rfl, B2, hr2⟩)
              split at hs
              · (first | lia | omega)
              · cases hs
            · exact wpS_pure ⟨rfl, B', hr⟩
          · rintro c st' ⟨rfl, B', hr⟩
            refine wpS_bind (wpS_modify (hj _ _ ⟨⟨B'.kind, B'.failed, B'.size, B'.mem⟩, ?_⟩))
            show Runs 0 ((pendingOf st').modify _ _).toList lo
            rw [Array.toList_modify]
            exact hr.pw fun a n p => ⟨_, rfl⟩
        · exact hj _ _ ⟨B2, hr2⟩
    · intro hj
      clear_value jp
      subst hm
      refine s_if (fun hmr => ?_) fun _ => hj _ _ ⟨⟨h1, h2'⟩, B2.1, B2.2⟩
      have hmr' : n < minRun' a₀.size a₀.size 0 := hmr
      refine wpS_bind (wpS_lift (wpAny_rule ⟨rfl, ?_⟩))
      refine wpS_bind (binary_ok H B2 (show lo + min (a₀.size - lo) _ ≤ a₀.size by (first | lia | omega)) fun st3 B3 => ?_)
      refine hj _ _ ⟨⟨?_, ?_⟩, B3.1, B3.2⟩
      · show 1 ≤ min (a₀.size - lo) (minRun' a₀.size a₀.size 0)
        (first | lia | omega)
      · show min (a₀.size - lo) _ ≤ a₀.size - lo
        (first | lia | omega)
  · rintro c st' ⟨lo, rfl, B', hr, hlo⟩
    refine wpS_bind (wpS_mono (wpS_forRange (I := fun _ c st' => c = (none, ()) ∧ SOk κ a₀ st' ∧ Runs 0 (pendingOf st').toList lo) (Q := fun c st' => c = (none, ()) ∧ SOk κ a₀ st' ∧ Runs 0 (pendingOf st').toList lo)
      ?_ (fun _ _ hh => hh) ⟨rfl, B', hr⟩) ?_)
    · rintro x c st' _ _ ⟨rfl, B', hr⟩
      refine wpS_bind (wpS_get (s_if (fun _ => wpS_pure ⟨rfl, B', hr⟩) fun hgt => ?_))
      have hgt' : ¬ (pendingOf st').size ≤ 1 := hgt
      refine wpS_bind (mergeAt_ok H B' hr hlo ?_ fun st2 B2 hr2 => wpS_pure ⟨rfl, B2, hr2⟩)
      exact Nat.lt_of_le_of_lt (Nat.add_le_add_right (if_le _ _) 1) (by (first | lia | omega))
    · rintro c st' ⟨rfl, B', hr⟩
      exact wpS_pure (h _ B')
end
end Mine
namespace Mine
open PySem PySem.W PySem.Calls PyProof.Rows

section
variable {prog : Program} {w : World} {A : Around} {E : Value → Shared → Prop} {s : Shared}
noncomputable def midHeap (h : Heap) (a : Addr) (vs : List Value) : Heap := ((h.update a (Obj.mapSeq fun _ => #[])).push (seqObj "tuple" vs.toArray 0)).push (seqObj "list" #[] 0)
theorem list_sort_any {a : Addr} {vs : List Value} {n : Nat} {P : PySem.Fin → Shared → Prop} (ho : s.heap.get? a = some (seqObj "list" vs.toArray n)) (h2 : 2 ≤ vs.length) (hz : vs.length ≤ sizeLine)
    (hk : wpAny (model prog w) A (keyKind' vs.toArray) (fun κ s' => s' = { s with heap := midHeap s.heap a vs } ∧ Asks prog w A { s with heap := midHeap s.heap a vs } κ (pairsOf vs)) (fun _ _ => False) { s with heap := midHeap s.heap a vs })
    (h : ∀ out : Array Value, out.size = vs.length → (∀ v ∈ out, v ∈ vs) → P (.done (.ret .none)) { s with heap := sortedHeap s.heap a vs out }) :
    wpAny (model prog w) A (Builtin.«list.sort» ⟨[.ref a], []⟩) P E s := by
  have ha : a < s.heap.objs.size := Heap.lt_size ho
  obtain ⟨e1, ho1⟩ : ∃ e1, (s.heap.update a (Obj.mapSeq fun _ => #[])).get? a = some (seqObj "list" #[] e1) := ⟨_, get?_update_seq ho fun _ => #[]⟩
  have ho6 : (midHeap s.heap a vs).get? a = some (seqObj "list" #[] e1) := Heap.get?_push_of_some _ (Heap.get?_push_of_some _ ho1)
  rw [list_sort_plain]
  refine wpAny_bind (listItems_at ho rfl (wpAny_bind (listUpdate_at ho rfl ?_ (by rw [List.size_toArray]; exact hz) (Nat.zero_le _))))
  refine wpAny_bind (seqEpoch_at ho1 rfl (wpAny_bind (wpAny_newTuple (wpAny_bind (wpAny_newList (wpAny_holding ?_) (Nat.zero_le _))) hz)))
  show wpAny (model prog w) A _ P E { s with heap := midHeap s.heap a vs }
  dsimp only
  have hn2 : ¬ vs.toArray.size < 2 := by rw [List.size_toArray]; omega
  rw [if_neg hn2, if_neg hn2]
  refine wpAny_bind (wpAny_mono hk ?_ fun _ _ x => x.elim)
  rintro κ s' ⟨rfl, H⟩
  refine wpAny_bind (wpAny_mono (runs_ok (st := SortSt.mk' κ (vs.toArray.zip vs.toArray) #[] 7 none) (Q := fun _ st' => SOk κ (pairsOf vs) st') H ⟨rfl, rfl, rfl, fun _ hx => hx⟩ rfl fun st' B => B) ?_ fun _ _ e => e)
  rintro ⟨⟨⟩, st'⟩ s' ⟨rfl, B⟩
  have hsz : ((arrOf st').map (·.2)).size = vs.length := (Array.size_map ..).trans (B.size.trans (pairsOf_size _))
  dsimp only
  refine wpAny_bind (seqEpoch_at ho6 rfl (wpAny_bind (listUpdate_at ho6 rfl ?_ (Nat.zero_le _) (Nat.le_trans (Nat.le_of_eq hsz) (Nat.le_succ_of_le hz)))))
  rw [B.failed]
  simp only [bne_self_eq_false, Bool.false_eq_true, if_false]
  refine wpAny_pure (h _ hsz fun v hv => ?_)
  obtain ⟨x, hx, rfl⟩ := Array.mem_map.mp hv
  have hm := B.mem x hx
  obtain ⟨i, hi, rfl⟩ := Array.mem_iff_getElem.mp hm
  simp [pairsOf]
theorem sorted_any {h₀ : Heap} {L : Addr} {m : Str → Option Value} {news : List (Addr × Obj)} {l : Addr} {vs : List Value} {Q : Value → Shared → Prop} (F : Fr h₀ L s.heap m) (N : News h₀ L s.heap news) (hl : s.heap.IsList l vs.toArray) (h2 : 2 ≤ vs.length) (hz : vs.length ≤ sizeLine)
    (hk : ∀ A' h', (∀ b o, s.heap.get? b = some o → h'.get? b = some o) → wpAny (model prog w) A' (keyKind' vs.toArray) (fun κ s' => s' = { s with heap := h' } ∧ Asks prog w A' { s with heap := h' } κ (pairsOf vs)) (fun _ _ => False) { s with heap := h' })
    (h : ∀ (h' : Heap) (out : List Value) (e : Nat), Fr h₀ L h' m → News h₀ L h' ((s.heap.objs.size + 1, seqObj "list" out.toArray e) :: news) → out.length = vs.length → (∀ v ∈ out, v ∈ vs) → Q (.ref (s.heap.objs.size + 1)) { s with heap := h' }) :
    wpAny (model prog w) A (call (.builtin "sorted") [.ref l]) Q E s := by
  refine Calls.call_function_entry kind_sorted plain_sorted entry_sorted (args_sorted1 _) ?_
  unfold Builtin.«sorted»
  refine wpAny_bind (m := checkCount "sorted" 1 1 _) (wpAny_pure (wpAny_bind (collect_list hl (wpAny_bind (wpAny_newList ?_ hz)) hz)))
  have hsz : ((s.heap.push (seqObj "list" #[] 0)).update s.heap.objs.size (Obj.mapSeq (· ++ vs.toArray))).objs.size = s.heap.objs.size + 1 := by
    rw [Heap.size_update, size_push']
  have hoL : (((s.heap.push (seqObj "list" #[] 0)).update s.heap.objs.size (Obj.mapSeq (· ++ vs.toArray))).push (seqObj "list" vs.toArray 0)).get? (s.heap.objs.size + 1) = some (seqObj "list" vs.toArray 0) := by
    rw [← hsz]; exact Heap.get?_push_size _ rfl
  show wpAny _ _ _ _ _ { s with heap := ((s.heap.push (seqObj "list" #[] 0)).update s.heap.objs.size (Obj.mapSeq (· ++ vs.toArray))).push (seqObj "list" vs.toArray 0) }
  rw [hsz]
  refine wpAny_bind (wpAny_holding (wpAny_call_entry slot_list_sort ⟨_, hoL, rfl⟩ entry_list_sort (list_sort_any (s := { s with heap := ((s.heap.push (seqObj "list" #[] 0)).update s.heap.objs.size (Obj.mapSeq (· ++ vs.toArray))).push (seqObj "list" vs.toArray 0) }) hoL h2 hz (hk _ _ fun b o q => ?_) fun out e1 e2 => ⟨_, rfl, wpAny_pure ⟨_, rfl, ?_⟩⟩) (args_list_sort _)))
  · have hlt : b < s.heap.objs.size := Heap.lt_size q
    show (midHeap _ _ _).get? b = some o
    refine Heap.get?_push_of_some _ (Heap.get?_push_of_some _ ?_)
    rw [Heap.get?_update_ne _ _ _ _ (Nat.ne_of_lt (Nat.lt_succ_of_lt hlt))]
    refine Heap.get?_push_of_some _ ?_
    rw [Heap.get?_update_ne _ _ _ _ (Nat.ne_of_lt hlt)]
    exact Heap.get?_push_of_some _ q
  · obtain ⟨e, he⟩ := sortedAll_at s.heap vs out
    exact h _ out.toList e (F.kept fun _ _ => sortedAll_old) (N.kept_cons F (fun _ _ => sortedAll_old) (Nat.le_succ _) he) e1 fun v hv => e2 v (Array.mem_def.mpr hv)
end
end Mine
namespace Mine
open PySem PySem.W PySem.Calls PyProof.Rows PyProof.V PySem.Spec

inductive Bi where
  | len | abs | min | max | sorted | round | isinstance | sum
noncomputable def Bi.id : Bi → String
  | .len => "len" | .abs => "abs" | .min => "min" | .max => "max" | .sorted => "sorted" | .round => "round" | .isinstance => "isinstance" | .sum => "sum"
inductive Ty where
  | int | float | tuple | list | range | str | bool | type
  deriving DecidableEq
noncomputable def Ty.name : Ty → String
  | .int => "int" | .float => "float" | .tuple => "tuple" | .list => "list" | .range => "range" | .str => "str" | .bool => "bool" | .type => "type"

inductive AV where
  | none
  | bool (b : Bool)
  | int (i : Int)
  | float (x : UInt64)
  | str (s : Str)
  | typ (t : Ty)
  | bi (b : Bi)
  | fn (k : Nat)
  | tup (l : List AV)
  | lst (i : Nat)
  | rng (a b c : Int)

noncomputable def divII (a b : Int) : UInt64 := Float64.ofFrac (decide (a < 0) != decide (b < 0)) a.natAbs b.natAbs

noncomputable def fcmp (op : CmpOp) (o : Option Ordering) : Bool :=
  match op with
  | .Eq => o == some .eq
  | .NotEq => !(o == some .eq)
  | .Lt => o == some .lt
  | .LtE => o == some .lt || o == some .eq
  | .Gt => o == some .gt
  | .GtE => o == some .gt || o == some .eq
  | _ => false

noncomputable def icmp (op : CmpOp) (x y : Int) : Bool :=
  match op with
  | .Eq => x == y
  | .NotEq => x != y
  | .Lt => decide (x < y)
  | .LtE => decide (x ≤ y)
  | .Gt => decide (x > y)
  | .GtE => decide (x ≥ y)
  | _ => false

noncomputable def isOrd : CmpOp → Bool
  | .Eq | .NotEq | .Lt | .LtE | .Gt | .GtE => true
  | _ => false

noncomputable def flt (x y : UInt64) : Bool := Float64.cmp x y == some .lt
noncomputable def fmax3 (x y z : UInt64) : UInt64 := if flt x y then (if flt y z then z else y) else (if flt x z then z else x)
noncomputable def fmin3 (x y z : UInt64) : UInt64 := if flt y x then (if flt z y then z else y) else (if flt z x then z else x)
noncomputable def imax3 (a b c : Int) : Int := if a < b then (if b < c then c else b) else (if a < c then c else a)
end Mine
namespace Mine
open PySem PySem.W PySem.Calls PyProof.Rows PyProof.V PySem.Spec

structure St where
  loc : Nat → Option AV
  objs : List (List AV)
  own : List Nat

noncomputable def upd (ℓ : Nat → Option AV) (n : Nat) (v : AV) : Nat → Option AV := fun k => if k = n then some v else ℓ k

noncomputable def St.set (σ : St) (n : Nat) (v : AV) : St := { σ with loc := upd σ.loc n v }
noncomputable def St.alloc (σ : St) (l : List AV) : St := { σ with objs := σ.objs ++ [l], own := σ.objs.length :: σ.own }

mutual
inductive PE where
  | const (v : AV)
  | loc (n : Nat)
  | glob (j : Nat)
  | bin (op : Operator) (l r : PE)
  | not (e : PE)
  | cmp (op : CmpOp) (l r : PE)
  | bools (isAnd : Bool) (es : PEs)
  | call (f : PE) (args : PEs)
  | sub (e i : PE)
  | slTo (e hi : PE)
  | slAll (e lo hi : PE)
  | tuple (es : PEs)
  | list (es : PEs)
  | comp (elt : PE) (o : Option Nat) (caps gl : List Nat) (iter : PE) (ifs : PEs)
inductive PEs where
  | nil
  | cons (e : PE) (es : PEs)
end

inductive Tgt where
  | name (n : Nat)
  | tup (ns : List Nat)

mutual
inductive PS where
  | assign (t : Tgt) (e : PE)
  | aug (n : Nat) (op : Operator) (e : PE)
  | append (o e : PE)
  | ifs (c : PE) (a b : PSs)
  | for_ (t : Tgt) (iter : PE) (body : PSs)
  | ret (e : PE)
inductive PSs where
  | nil
  | cons (s : PS) (ss : PSs)
end


structure Keys where
  names : List Str
  globs : List Str
  cells : List Str := []
  /-- globals that none but the comprehensions read -/
  far : List Str := []

noncomputable def mC (v : AV) (c : Const) : Bool :=
  match v with
  | .none => (match c with | .none => true | _ => false)
  | .bool b => (match c with | .bool c => b == c | _ => false)
  | .int i => (match c with | .int j => i == j | _ => false)
  | .float x => (match c with | .float y => x == y | _ => false)
  | .str s => (match c with | .str t => s == t | _ => false)
  | _ => false

noncomputable def nameOf : Expr → Option Str
  | .Name x _ => some x
  | _ => none
noncomputable def tupleOf : Expr → Option (List Expr)
  | .Tuple es _ _ => some es
  | _ => none
noncomputable def tgtNames (o : Option Nat) (e : Expr) : Option (List Str) :=
  match o with
  | none => (nameOf e).map fun x => [x]
  | some n => (tupleOf e).bind fun es => if es.length == n then es.mapM nameOf else none
noncomputable def childKeys (K : Keys) (xs : List Str) (caps gl : List Nat) : Keys :=
  ⟨xs ++ caps.map (fun i => K.names.getD i ""), gl.map (fun i => K.globs.getD i ""), caps.map (fun i => K.names.getD i ""), []⟩
noncomputable def scopeOk (K : Keys) (xs : List Str) (caps gl : List Nat) (sc : Scope) : Bool :=
  (sc.kind == .function && (sc.names.all (fun y => y.2 != .cell) && sc.names.all (fun y => y.2 != .local || sc.names.lookup y.1 == some .local))) &&
  (xs.all (fun x => sc.names.lookup x == some .local && (x == ("__debug__" : Str)) == false) &&
  (caps.all (fun i => (decide (i < K.names.length) && K.cells.contains (K.names.getD i "")) && (sc.names.lookup (K.names.getD i "") == some .free && ((K.names.getD i "") == ("__debug__" : Str)) == false)) &&
  (gl.all (fun i => decide (i < K.globs.length) && sc.names.lookup (K.globs.getD i "") == some .globalImplicit) &&
  ((childKeys K xs caps gl).names.Nodup && sc.names.all (fun y => y.2 != .free || (caps.map (fun i => K.names.getD i "")).contains y.1)))))

noncomputable def notSet : Expr → Bool
  | .Set .. => false
  | _ => true
noncomputable def compKeys (K : Keys) (o : Option Nat) (tgt : Expr) (caps gl : List Nat) (sc : Scope) (n : Nat) (k : Keys → Bool) : Bool :=
  match tgtNames o tgt with
  | some xs => (scopeOk K xs caps gl sc && decide (n ≤ 1)) && k (childKeys K xs caps gl)
  | none => false
noncomputable def notSlice : Expr → Bool
  | .Slice .. => false
  | _ => true
noncomputable def notStar : Expr → Bool
  | .Starred .. => false
  | _ => true
noncomputable def boolOk : Bool → BoolOp → Bool
  | true, .And => true
  | false, .Or => true
  | _, _ => false
mutual
noncomputable def mE (K : Keys) : PE → Expr → Bool
  | .const v, e => (match e with | .Constant c _ _ => mC v c | _ => false)
  | .loc n, e => (match e with | .Name x _ => K.names[n]? == some x | _ => false)
  | .glob j, e => (match e with | .Name x _ => K.globs[j]? == some x && !(K.far.contains x) | _ => false)
  | .bin op l r, e => (match e with | .BinOp l' op' r' _ => op == op' && (mE K l l' && mE K r r') | _ => false)
  | .not p, e => (match e with | .UnaryOp .Not e' _ => mE K p e' | _ => false)
  | .cmp op l r, e => (match e with | .Compare l' [op'] [r'] _ => op == op' && (behindInMarks op' r' == false && (mE K l l' && mE K r r')) | _ => false)
  | .bools b es, e => (match e with | .BoolOp o es' _ => boolOk b o && mEs K es es' | _ => false)
  | .call f args, e => (match e with | .Call (.Name x p) (e' :: args') [] _ => mE K f (.Name x p) && mEs K args (e' :: args') | _ => false)
  | .tuple es, e => (match e with | .Tuple es' _ _ => mEs K es es' | _ => false)
  | .list es, e => (match e with | .List es' _ => mEs K es es' | _ => false)
  | .sub p i, e => (match e with | .Subscript e' i' _ => notSlice i' && (mE K p e' && mE K i i') | _ => false)
  | .slTo _ _, _ => false
  | .slAll p lo hi, e => (match e with | .Subscript e' (.Slice (some lo') (some hi') none _) _ => mE K p e' && (mE K lo lo' && mE K hi hi') | _ => false)
  | .comp elt o caps gl iter ifs, e => (match e with | .ListComp elt' [⟨tgt, iter', ifs', 0⟩] sc _ => notSet iter' && (mE K iter iter' && compKeys K o tgt caps gl sc ifs'.length fun K' => mE K' elt elt' && mEs K' ifs ifs') | _ => false)
noncomputable def mEs (K : Keys) : PEs → List Expr → Bool
  | .nil, [] => true
  | .cons e es, e' :: es' => notStar e' && (mE K e e' && mEs K es es')
  | _, _ => false
end


noncomputable def addW (a b : AV) (σ : St) (Q : AV → St → Prop) : Prop :=
  match a, b with
  | .int x, .int y => Q (.int (x + y)) σ
  | .float x, .float y => Q (.float (Float64.add x y)) σ
  | _, _ => False
noncomputable def minusW (a b : AV) (σ : St) (Q : AV → St → Prop) : Prop :=
  match a, b with
  | .int x, .int y => Q (.int (x - y)) σ
  | .float x, .float y => Q (.float (Float64.sub x y)) σ
  | _, _ => False
noncomputable def multW (a b : AV) (σ : St) (Q : AV → St → Prop) : Prop :=
  match a, b with
  | .int x, .int y => IntMulOk x y ∧ Q (.int (x * y)) σ
  | .float x, .float y => Q (.float (Float64.mul x y)) σ
  | .int n, .float x => n.natAbs < 2 ^ 1023 ∧ Q (.float (Float64.mul (Float64.ofInt n) x)) σ
  | _, _ => False
noncomputable def divW (a b : AV) (σ : St) (Q : AV → St → Prop) : Prop :=
  match a, b with
  | .int x, .int y => (y ≠ 0 ∧ (x.natAbs < 2 ^ 1023 ∨ Float64.isInf (divII x y) = false)) ∧ Q (.float (divII x y)) σ
  | .float x, .float y => Float64.isZero y = false ∧ Q (.float (Float64.div x y)) σ
  | _, _ => False
noncomputable def modW (a b : AV) (σ : St) (Q : AV → St → Prop) : Prop :=
  match a, b with
  | .int x, .int y => y ≠ 0 ∧ Q (.int (x.fmod y)) σ
  | .float x, .float y => Float64.isZero y = false ∧ Q (.float (Float64.divmod x y).2) σ
  | _, _ => False
noncomputable def fdivW (a b : AV) (σ : St) (Q : AV → St → Prop) : Prop :=
  match a, b with
  | .int x, .int y => (y ≠ 0 ∧ y.natAbs.log2 < 9000) ∧ Q (.int (x.fdiv y)) σ
  | _, _ => False
noncomputable def powW (a b : AV) (σ : St) (Q : AV → St → Prop) : Prop :=
  match a, b with
  | .int x, .int n => (0 ≤ n ∧ n ≤ 1000000 ∧ x.natAbs < 2 ^ 64) ∧ Q (.int (x ^ n.toNat)) σ
  | _, _ => False
noncomputable def binW (op : Operator) (a b : AV) (σ : St) (Q : AV → St → Prop) : Prop :=
  match op with
  | .Add => addW a b σ Q
  | .Sub => minusW a b σ Q
  | .Mult => multW a b σ Q
  | .Div => divW a b σ Q
  | .Mod => modW a b σ Q
  | .FloorDiv => fdivW a b σ Q
  | .Pow => powW a b σ Q
  | _ => False

noncomputable def cmpW (op : CmpOp) (a b : AV) (Q : Bool → Prop) : Prop :=
  match a, b with
  | .int x, .int y => isOrd op = true ∧ Q (icmp op x y)
  | .float x, .float y => isOrd op = true ∧ Q (fcmp op (Float64.cmp x y))
  | _, _ => False

def truth (σ : St) : AV → Option Bool
  | .bool b => some b
  | _ => none
def truthW (v : AV) (σ : St) (Q : Bool → Prop) : Prop :=
  match v with
  | .bool b => Q b
  | _ => False
theorem truthW_iff {v : AV} {σ : St} {Q : Bool → Prop} : truthW v σ Q ↔ ∃ b, truth σ v = some b ∧ Q b := by
  unfold truthW truth
  split
  · exact ⟨fun q => ⟨_, rfl, q⟩, fun ⟨_, h, q⟩ => by cases h; exact q⟩
  · exact ⟨fun q => q.elim, fun ⟨_, h, q⟩ => by cases h⟩
noncomputable def pick {α : Type} (l : List α) (lo hi : Option Int) : List α := (l.drop (kms_lo lo l.length)).take (kms_hi hi l.length - kms_lo lo l.length)

abbrev Fns := Nat → List AV → List (List AV) → (AV → List (List AV) → Prop) → Prop

noncomputable def intsOf : List AV → Option (List Int)
  | [] => some []
  | .int i :: r => (intsOf r).map (i :: ·)
  | _ => .none

noncomputable def binL (op : Operator) (a b : AV) (σ : St) (Q : AV → St → Prop) : Prop :=
  match op, a, b with
  | .Add, .lst i, .lst j => ∃ l k, σ.objs[i]? = some l ∧ σ.objs[j]? = some k ∧ l.length + k.length ≤ sizeLine ∧ Q (.lst σ.objs.length) (σ.alloc (l ++ k))
  | .Add, .tup l, .tup k => (0 < l.length ∧ 0 < k.length ∧ l.length + k.length ≤ sizeLine) ∧ Q (.tup (l ++ k)) σ
  | op, a, b => binW op a b σ Q

noncomputable def AV.flt? : AV → Option UInt64
  | .float x => some x
  | _ => Option.none
def cmpL (op : CmpOp) (a b : AV) (σ : St) (Q : Bool → Prop) : Prop :=
  match a, b with
  | .lst i, .lst j => (∃ l k, ∃ ns ms : List Int, (σ.objs[i]? = some l ∧ σ.objs[j]? = some k) ∧ (intsOf l = some ns ∧ intsOf k = some ms) ∧
      ((op = .Eq ∧ Q (decide (ns = ms))) ∨ (op = .NotEq ∧ Q (!decide (ns = ms)))))
  | a, b => cmpW op a b Q
noncomputable def subW (o i : AV) (σ : St) (Q : AV → St → Prop) : Prop :=
  match o, i with
  | .lst j, .int k => ∃ l v, σ.objs[j]? = some l ∧ (0 ≤ k ∧ k < 2 ^ 63) ∧ l[k.toNat]? = some v ∧ Q v σ
  | .tup l, .int k => ∃ v, (0 ≤ k ∧ k < 2 ^ 63) ∧ l[k.toNat]? = some v ∧ Q v σ
  | _, _ => False

noncomputable def sliceW (o : AV) (lo hi : Option Int) (σ : St) (Q : AV → St → Prop) : Prop :=
  match o with
  | .lst j => ∃ l, σ.objs[j]? = some l ∧ l.length ≤ sizeLine ∧ Q (.lst σ.objs.length) (σ.alloc (pick l lo hi))
  | .tup l => ∃ k : Nat, (lo = some (k : Int) ∧ hi = none) ∧ (1 ≤ k ∧ k ≤ l.length ∧ l.length ≤ sizeLine) ∧ Q (.tup (l.drop k)) σ
  | _ => False

noncomputable def lenW (args : List AV) (σ : St) (Q : AV → St → Prop) : Prop :=
  match args with
  | [.lst i] => ∃ l, σ.objs[i]? = some l ∧ l.length < 2 ^ 40 ∧ Q (.int l.length) σ
  | _ => False
noncomputable def minW (args : List AV) (σ : St) (Q : AV → St → Prop) : Prop :=
  match args with
  | [.int x, .int y] => Q (.int (if y < x then y else x)) σ
  | [.float x, .float y, .float z] => Q (.float (fmin3 x y z)) σ
  | _ => False
noncomputable def maxW (args : List AV) (σ : St) (Q : AV → St → Prop) : Prop :=
  match args with
  | [.float x, .float y, .float z] => Q (.float (fmax3 x y z)) σ
  | _ => False
noncomputable def isPair : AV → Bool
  | .tup l => match l with
    | a :: r => (match a with | .int _ => (match r with | b :: r' => (match b with | .float _ => r'.isEmpty | _ => false) | _ => false) | _ => false)
    | _ => false
  | _ => false
noncomputable def sortedW (args : List AV) (σ : St) (Q : AV → St → Prop) : Prop :=
  match args with
  | [.lst i] => (∃ l ns, (σ.objs[i]? = some l ∧ intsOf l = some ns) ∧ ns.length < 64 ∧ ∀ ns' : List Int, ns'.Perm ns → ns'.Pairwise (· ≤ ·) → Q (.lst σ.objs.length) (σ.alloc (ns'.map .int))) ∨
      (∃ l, (σ.objs[i]? = some l ∧ l.all isPair = true) ∧ (2 ≤ l.length ∧ l.length ≤ sizeLine) ∧ ∀ l' : List AV, l'.length = l.length → (∀ v ∈ l', v ∈ l) → Q (.lst σ.objs.length) (σ.alloc l'))
  | _ => False
noncomputable def roundW (args : List AV) (σ : St) (Q : AV → St → Prop) : Prop :=
  match args with
  | [.float x] => Float64.isFinite x = true ∧ Q (.int (Flt.toInt Float64.nearestOf x)) σ
  | _ => False
noncomputable def isinstW (args : List AV) (σ : St) (Q : AV → St → Prop) : Prop :=
  match args with
  | [.float _, .typ .float] => Q (.bool true) σ
  | _ => False
noncomputable def rangeW (args : List AV) (σ : St) (Q : AV → St → Prop) : Prop :=
  match args with
  | [.int b] => Q (.rng 0 b 1) σ
  | [.int a, .int b] => Q (.rng a b 1) σ
  | [.int a, .int b, .int c] => (c ≠ 0 ∧ c.natAbs.log2 < 9000) ∧ Q (.rng a b c) σ
  | _ => False
noncomputable def biW (b : Bi) (args : List AV) (σ : St) (Q : AV → St → Prop) : Prop :=
  match b with
  | .len => lenW args σ Q
  | .min => minW args σ Q
  | .max => maxW args σ Q
  | .sorted => sortedW args σ Q
  | .round => roundW args σ Q
  | .isinstance => isinstW args σ Q
  | _ => False
noncomputable def typW (t : Ty) (args : List AV) (σ : St) (Q : AV → St → Prop) : Prop :=
  match t with
  | .range => rangeW args σ Q
  | _ => False
noncomputable def callW (fns : Fns) (f : AV) (args : List AV) (σ : St) (Q : AV → St → Prop) : Prop :=
  match f with
  | .fn k => fns k args σ.objs (fun v objs => Q v { σ with objs := objs })
  | .bi b => biW b args σ Q
  | .typ t => typW t args σ Q
  | _ => False

noncomputable def noFns : Fns := fun _ _ _ _ => False

noncomputable def rngItems (a b c : Int) : List AV := (List.range (Builtin.Range.rangeSize a b c).toNat).map fun i => .int (a + ((i : Nat) : Int) * c)
noncomputable def itemsW (v : AV) (σ : St) (K : List AV → Prop) : Prop :=
  match v with
  | .rng a b c => (Builtin.Range.small a b c = true ∧ 0 < c) ∧ K (rngItems a b c)
  | .lst j => ∃ l, σ.objs[j]? = some l ∧ K l
  | .tup l => K l
  | _ => False
noncomputable def partsW (o : Option Nat) (v : AV) (objs : List (List AV)) (K : List AV → Prop) : Prop :=
  match o with
  | none => K [v]
  | some n => match v with
    | .tup l => l.length = n ∧ K l
    | .lst j => ∃ l, objs[j]? = some l ∧ l.length = n ∧ K l
    | _ => False
noncomputable def childLoc (ℓ : Nat → Option AV) (vs : List AV) (caps : List Nat) : Nat → Option AV := fun i => if i < vs.length then vs[i]? else (caps[i - vs.length]?).bind ℓ
noncomputable def childG (g : Nat → Option AV) (gl : List Nat) : Nat → Option AV := fun j => (gl[j]?).bind g
noncomputable def appendAt (objs : List (List AV)) (n : Nat) (u : AV) : List (List AV) := objs.set n (objs.getD n [] ++ [u])
noncomputable def compL (turn : AV → List (List AV) → (Option AV → List (List AV) → Prop) → Prop) (n : Nat) : List AV → List (List AV) → (List (List AV) → Prop) → Prop
  | [], objs, Q => Q objs
  | v :: vs, objs, Q => turn v objs fun r objs' => match r with
    | none => compL turn n vs objs' Q
    | some u => compL turn n vs (appendAt objs' n u) Q

noncomputable def AV.callable : AV → Bool
  | .fn _ | .bi _ | .typ _ => true
  | _ => false

mutual
noncomputable def wpE (g : Nat → Option AV) (fns : Fns) : PE → St → (AV → St → Prop) → Prop
  | .const v, σ, Q => Q v σ
  | .loc n, σ, Q => ∃ v, σ.loc n = some v ∧ Q v σ
  | .glob j, σ, Q => ∃ v, g j = some v ∧ Q v σ
  | .bin op l r, σ, Q => wpE g fns l σ fun a σ₁ => wpE g fns r σ₁ fun b σ₂ => binL op a b σ₂ Q
  | .not e, σ, Q => wpE g fns e σ fun v σ₁ => truthW v σ₁ fun b => Q (.bool (!b)) σ₁
  | .cmp op l r, σ, Q => wpE g fns l σ fun a σ₁ => wpE g fns r σ₁ fun b σ₂ => cmpL op a b σ₂ fun c => Q (.bool c) σ₂
  | .bools isAnd es, σ, Q => wpBs g fns isAnd es σ Q
  | .call f args, σ, Q => wpE g fns f σ fun fv σ₁ => fv.callable = true ∧ wpEs g fns args σ₁ fun vs σ₂ => callW fns fv vs σ₂ Q
  | .sub e i, σ, Q => wpE g fns e σ fun o σ₁ => wpE g fns i σ₁ fun v σ₂ => subW o v σ₂ Q
  | .slTo e hi, σ, Q => wpE g fns e σ fun o σ₁ => wpE g fns hi σ₁ fun h σ₂ => ∃ k, h = .int k ∧ sliceW o none (some k) σ₂ Q
  | .slAll e lo hi, σ, Q => wpE g fns e σ fun o σ₁ => wpE g fns lo σ₁ fun l σ₂ => wpE g fns hi σ₂ fun h σ₃ => ∃ k j, l = .int k ∧ h = .int j ∧ sliceW o (some k) (some j) σ₃ Q
  | .tuple es, σ, Q => wpEs g fns es σ fun vs σ₁ => vs.length ≤ sizeLine ∧ Q (.tup vs) σ₁
  | .list es, σ, Q => wpEs g fns es σ fun vs σ₁ => vs.length ≤ sizeLine ∧ ∃ n, σ₁.objs.length = n ∧ Q (.lst n) (σ₁.alloc vs)
  | .comp elt o caps gl iter ifs, σ, Q => wpE g fns iter σ fun v σ₁ => itemsW v σ₁ fun items => items.length ≤ sizeLine ∧ ∃ n, σ₁.objs.length = n ∧
      compL (fun u objs K => partsW o u objs fun us => wpTs (childG g gl) noFns ifs ⟨childLoc σ₁.loc us caps, objs, []⟩ fun ok σ₂ =>
        (ok = true → wpE (childG g gl) noFns elt σ₂ fun x σ₃ => K (some x) σ₃.objs) ∧ (ok = false → K none σ₂.objs)) n items (σ₁.objs ++ [[]]) fun objs => Q (.lst n) ⟨σ₁.loc, objs, n :: σ₁.own⟩
noncomputable def wpEs (g : Nat → Option AV) (fns : Fns) : PEs → St → (List AV → St → Prop) → Prop
  | .nil, σ, Q => Q [] σ
  | .cons e es, σ, Q => wpE g fns e σ fun v σ₁ => wpEs g fns es σ₁ fun vs σ₂ => Q (v :: vs) σ₂
noncomputable def wpTs (g : Nat → Option AV) (fns : Fns) : PEs → St → (Bool → St → Prop) → Prop
  | .nil, σ, Q => Q true σ
  | .cons e es, σ, Q => wpE g fns e σ fun v σ₁ => truthW v σ₁ fun b => (b = true → wpTs g fns es σ₁ Q) ∧ (b = false → Q false σ₁)
noncomputable def wpBs (g : Nat → Option AV) (fns : Fns) (isAnd : Bool) : PEs → St → (AV → St → Prop) → Prop
  | .nil, _, _ => False
  | .cons e es, σ, Q => wpE g fns e σ fun v σ₁ => wpBr g fns isAnd es v σ₁ Q
noncomputable def wpBr (g : Nat → Option AV) (fns : Fns) (isAnd : Bool) : PEs → AV → St → (AV → St → Prop) → Prop
  | .nil, v, σ, Q => Q v σ
  | .cons e es, v, σ, Q => truthW v σ fun b => (b = isAnd → wpE g fns e σ fun u σ₁ => wpBr g fns isAnd es u σ₁ Q) ∧ (b = !isAnd → Q v σ)
end
inductive Fl where
  | next
  | ret (v : AV)

noncomputable def setAll (σ : St) : List Nat → List AV → St
  | n :: ns, v :: vs => setAll (σ.set n v) ns vs
  | _, _ => σ
noncomputable def bindW (t : Tgt) (v : AV) (σ : St) (K : St → Prop) : Prop :=
  match t with
  | .name n => K (σ.set n v)
  | .tup ns => partsW (some ns.length) v σ.objs fun vs => K (setAll σ ns vs)
noncomputable def frozen (v : AV) (own : List Nat) : List Nat := match v with | .lst j => own.filter (· != j) | _ => own
noncomputable def thawed (v : AV) (own own' : List Nat) : List Nat := match v with | .lst j => if own.contains j then j :: own' else own' | _ => own'

noncomputable def augW (op : Operator) (a b : AV) (σ : St) (Q : AV → St → Prop) : Prop :=
  match op, a, b with
  | .Add, .lst i, .lst j => ∃ l k, (σ.objs[i]? = some l ∧ σ.objs[j]? = some k) ∧ (i ∈ σ.own ∧ l.length + k.length ≤ 2 ^ 20) ∧ Q (.lst i) { σ with objs := σ.objs.set i (l ++ k) }
  | _, _, _ => False

mutual
noncomputable def wpS (g : Nat → Option AV) (fns : Fns) : PS → St → (Fl → St → Prop) → Prop
  | .assign t e, σ, Q => wpE g fns e σ fun v σ₁ => bindW t v σ₁ fun σ₂ => Q .next σ₂
  | .aug n op e, σ, Q => ∃ v, σ.loc n = some v ∧ wpE g fns e σ fun u σ₁ => augW op v u σ₁ fun w σ₂ => Q .next (σ₂.set n w)
  | .append o e, σ, Q => wpE g fns o σ fun v σ₁ => ∃ i, (v = .lst i ∧ i ∈ σ₁.own) ∧ wpE g fns e σ₁ fun u σ₂ => ∃ l, (σ₂.objs[i]? = some l ∧ i ∈ σ₂.own ∧ l.length < 2 ^ 20) ∧ Q .next { σ₂ with objs := σ₂.objs.set i (l ++ [u]) }
  | .ifs c a b, σ, Q => wpE g fns c σ fun v σ₁ => truthW v σ₁ fun t => (t = true → wpSs g fns a σ₁ Q) ∧ (t = false → wpSs g fns b σ₁ Q)
  | .for_ t iter body, σ, Q => wpE g fns iter σ fun v σ₁ => itemsW v σ₁ fun items => ∃ J : Nat → St → Prop, J 0 σ₁ ∧
      (∀ i u σ₂, items[i]? = some u → J i σ₂ → bindW t u { σ₂ with own := frozen v σ₂.own } fun σ₂' => wpSs g fns body σ₂' fun fl σ₃ => match fl with
        | .next => J (i + 1) { σ₃ with own := thawed v σ₂.own σ₃.own } | .ret w => Q (.ret w) { σ₃ with own := thawed v σ₂.own σ₃.own }) ∧ (∀ σ₂, J items.length σ₂ → Q .next σ₂)
  | .ret e, σ, Q => wpE g fns e σ fun v σ₁ => Q (.ret v) σ₁
noncomputable def wpSs (g : Nat → Option AV) (fns : Fns) : PSs → St → (Fl → St → Prop) → Prop
  | .nil, σ, Q => Q .next σ
  | .cons s ss, σ, Q => wpS g fns s σ fun fl σ₁ => match fl with | .next => wpSs g fns ss σ₁ Q | .ret v => Q (.ret v) σ₁
end

noncomputable def mT (K : Keys) : Tgt → Expr → Bool
  | .name n, .Name x _ => K.names[n]? == some x
  | .tup ns, .Tuple es _ _ => (ns.length == es.length) && (ns.zip es).all fun p => match p.2 with | .Name x _ => K.names[p.1]? == some x | _ => false
  | _, _ => false

noncomputable def rhsOk : Expr → Expr → Bool
  | .Name .., .ListComp .. => false
  | .Name .., .SetComp .. => false
  | .Name .., .DictComp .. => false
  | .Tuple .., .Tuple vs _ _ => vs.all (foldedForSure 8)
  | _, _ => true
noncomputable def isName : Expr → Bool
  | .Name .. => true
  | _ => false
noncomputable def swapOk (K : Keys) : Expr → Expr → Bool
  | _, _ => false
mutual
noncomputable def mS (K : Keys) : PS → Stmt → Bool
  | .assign t e, s => (match s with | .Assign [t'] e' _ => mT K t t' && ((rhsOk t' e' || swapOk K t' e') && mE K e e') | _ => false)
  | .ifs c a b, s => (match s with | .If c' a' b' _ => mE K c c' && (mSs K a a' && mSs K b b') | _ => false)
  | .for_ t it body, s => (match s with | .For t' it' body' [] _ => mT K t t' && (notSet it' && (mE K it it' && mSs K body body')) | _ => false)
  | .ret e, s => (match s with | .Return (some e') _ => mE K e e' | _ => false)
  | .aug n op e, s => (match s with | .AugAssign (.Name x _) op' e' _ => K.names[n]? == some x && (op == op' && mE K e e') | _ => false)
  | .append o e, s => (match s with | .Expr (.Call (.Attribute o' a apos) [e'] [] pos) _ => isName o' && (a == ("append" : Str) && (apos.endLine == pos.line && (notStar e' && (mE K o o' && mE K e e')))) | _ => false)
noncomputable def mSs (K : Keys) : PSs → List Stmt → Bool
  | .nil, [] => true
  | .cons s ss, s' :: ss' => mS K s s' && mSs K ss ss'
  | _, _ => false
end
end Mine
namespace Mine
open PySem PySem.W PySem.Calls PyProof.Rows PyProof.V PySem.Spec

abbrev Led := List (Addr × Obj)
abbrev tupObj (items : List Value) (n : Nat) : Obj := { cls := .type "tuple", data := .seq items.toArray n }
abbrev lstObj (items : List Value) (n : Nat) : Obj := { cls := .type "list", data := .seq items.toArray n }
abbrev rngObj (a b c : Int) (t u v : Tok) : Obj := { cls := .type "range", dict := none, data := .fields #[.int a t, .int b u, .int c v], slots := #[] }

structure FA where
  addr : Nat → Addr
  top : Heap

noncomputable def IsL (o : Obj) (items : List Value) : Prop := o.cls = .type "list" ∧ ∃ n, o.data = .seq items.toArray n

noncomputable def IsLx (o : Obj) (items : List Value) : Prop := ∃ n, o = lstObj items n
theorem IsLx.toL {o : Obj} {items : List Value} (h : IsLx o items) : IsL o items := by obtain ⟨n, rfl⟩ := h; exact ⟨rfl, n, rfl⟩

noncomputable def Held (base : Heap) (news : Led) (a : Addr) (o : Obj) : Prop := (a, o) ∈ news ∨ base.get? a = some o

mutual
inductive RV (base : Heap) (fa : FA) (ad : List Addr) (news : Led) : AV → Value → Prop
  | none : RV base fa ad news .none .none
  | bool (b : Bool) : RV base fa ad news (.bool b) (.bool b)
  | int (i : Int) (t : Tok) : RV base fa ad news (.int i) (.int i t)
  | float (x : UInt64) (t : Tok) : t ≠ 0 → RV base fa ad news (.float x) (.float x t)
  | str (s : Str) (t : Tok) : RV base fa ad news (.str s) (.str s t)
  | typ (t : Ty) : RV base fa ad news (.typ t) (.type t.name)
  | bi (b : Bi) : RV base fa ad news (.bi b) (.builtin b.id)
  | fn (k : Nat) (o : Obj) (fd : FuncData) : fa.top.get? (fa.addr k) = some o → o.data = .func fd → RV base fa ad news (.fn k) (.ref (fa.addr k))
  | tup (l : List AV) (items : List Value) (a : Addr) (n : Nat) : Held base news a (tupObj items n) → RVs base fa ad news l items → RV base fa ad news (.tup l) (.ref a)
  | lst (i : Nat) (a : Addr) : ad[i]? = some a → RV base fa ad news (.lst i) (.ref a)
  | rng (a b c : Int) (r : Addr) (t u v : Tok) : Held base news r (rngObj a b c t u v) → RV base fa ad news (.rng a b c) (.ref r)
inductive RVs (base : Heap) (fa : FA) (ad : List Addr) (news : Led) : List AV → List Value → Prop
  | nil : RVs base fa ad news [] []
  | cons (v : AV) (vs : List AV) (c : Value) (cs : List Value) : RV base fa ad news v c → RVs base fa ad news vs cs → RVs base fa ad news (v :: vs) (c :: cs)
end

noncomputable def isCellObj (o : Obj) : Prop := ∃ v, o.data = .cell v
noncomputable def good (o : Obj) : Prop := o.cls = .type "tuple" ∨ o.cls = .type "list" ∨ o.cls = .type "range" ∨ isCellObj o
structure LeT (ad : List Addr) (news : Led) (ad' : List Addr) (news' : Led) : Prop where
  pre : ∀ (i : Nat) (a : Addr), ad[i]? = some a → ad'[i]? = some a
  keep : ∀ (a : Addr) (o : Obj), (a, o) ∈ news → o.cls = .type "tuple" ∨ o.cls = .type "range" → (a, o) ∈ news'
structure Le (fz : List Addr) (ad : List Addr) (news : Led) (ad' : List Addr) (news' : Led) : Prop where
  pre : ∀ (i : Nat) (a : Addr), ad[i]? = some a → ad'[i]? = some a
  keep : ∀ (a : Addr) (o : Obj), (a, o) ∈ news → (a ∈ fz ∨ (o.cls ≠ .type "list" ∧ ¬ isCellObj o)) → (a, o) ∈ news'

section
variable {fz : List Addr} {ad ad' ad'' : List Addr} {news news' news'' : Led}
theorem LeT.id : LeT ad news ad news := ⟨fun _ _ h => h, fun _ _ h _ => h⟩
theorem Le.refl : Le fz ad news ad news := ⟨fun _ _ h => h, fun _ _ h _ => h⟩
theorem Le.trans (h : Le fz ad news ad' news') (k : Le fz ad' news' ad'' news'') : Le fz ad news ad'' news'' :=
  ⟨fun i a e => k.pre i a (h.pre i a e), fun a o m g => k.keep a o (h.keep a o m g) g⟩
theorem Le.all (pre : ∀ (i : Nat) (a : Addr), ad[i]? = some a → ad'[i]? = some a) (k : ∀ p ∈ news, p ∈ news') : Le fz ad news ad' news' := ⟨pre, fun _ _ h _ => k _ h⟩
theorem Le.cons {p : Addr × Obj} : Le fz ad news ad (p :: news) := .all (fun _ _ h => h) fun _ h => .tail _ h
theorem snoc_pre {a : Addr} : ∀ (i : Nat) (b : Addr), ad[i]? = some b → (ad ++ [a])[i]? = some b := fun i b h => by
    have hlt : i < ad.length := (List.getElem?_eq_some_iff.mp h).1
    rw [List.getElem?_append_left hlt]; exact h
theorem Le.snoc {p : Addr × Obj} {a : Addr} : Le fz ad news (ad ++ [a]) (p :: news) := .all snoc_pre fun _ h => .tail _ h
end

theorem Held.leT {base : Heap} {ad ad' : List Addr} {news news' : Led} {a : Addr} {o : Obj} (h : Held base news a o) (k : LeT ad news ad' news') (n : o.cls = .type "tuple" ∨ o.cls = .type "range") : Held base news' a o :=
  h.elim (fun m => .inl (k.keep a o m n)) .inr

mutual
theorem RV.leT {base : Heap} {fa : FA} {ad ad' : List Addr} {news news' : Led} (k : LeT ad news ad' news') : ∀ {v : AV} {c : Value}, RV base fa ad news v c → RV base fa ad' news' v c
  | _, _, .none => .none
  | _, _, .bool b => .bool b
  | _, _, .int i t => .int i t
  | _, _, .float x t ht => .float x t ht
  | _, _, .str s t => .str s t
  | _, _, .typ n => .typ n
  | _, _, .bi n => .bi n
  | _, _, .fn j o fd h h' => .fn j o fd h h'
  | _, _, .tup l items a n h hs => .tup l items a n (h.leT k (.inl rfl)) (RVs.leT k hs)
  | _, _, .lst i a h => .lst i a (k.pre i a h)
  | _, _, .rng a b c r t u v h => .rng a b c r t u v (h.leT k (.inr rfl))
theorem RVs.leT {base : Heap} {fa : FA} {ad ad' : List Addr} {news news' : Led} (k : LeT ad news ad' news') : ∀ {v : List AV} {c : List Value}, RVs base fa ad news v c → RVs base fa ad' news' v c
  | _, _, .nil => .nil
  | _, _, .cons v vs c cs h hs => .cons v vs c cs (RV.leT k h) (RVs.leT k hs)
end

mutual
theorem RV.le {fz : List Addr} {base : Heap} {fa : FA} {ad ad' : List Addr} {news news' : Led} (k : Le fz ad news ad' news') : ∀ {v : AV} {c : Value}, RV base fa ad news v c → RV base fa ad' news' v c
  | _, _, .none => .none
  | _, _, .bool b => .bool b
  | _, _, .int i t => .int i t
  | _, _, .float x t ht => .float x t ht
  | _, _, .str s t => .str s t
  | _, _, .typ n => .typ n
  | _, _, .bi n => .bi n
  | _, _, .fn j o fd h h' => .fn j o fd h h'
  | _, _, .tup l items a n h hs => .tup l items a n (h.elim (fun m => .inl (k.keep _ _ m (.inr ⟨by simp, by rintro ⟨v, h⟩; cases h⟩))) .inr) (RVs.le k hs)
  | _, _, .lst i a h => .lst i a (k.pre i a h)
  | _, _, .rng a b c r t u v h => .rng a b c r t u v (h.elim (fun m => .inl (k.keep _ _ m (.inr ⟨by simp, by rintro ⟨v, h⟩; cases h⟩))) .inr)
theorem RVs.le {fz : List Addr} {base : Heap} {fa : FA} {ad ad' : List Addr} {news news' : Led} (k : Le fz ad news ad' news') : ∀ {v : List AV} {c : List Value}, RVs base fa ad news v c → RVs base fa ad' news' v c
  | _, _, .nil => .nil
  | _, _, .cons v vs c cs h hs => .cons v vs c cs (RV.le k h) (RVs.le k hs)
end

structure Cx where
  prog : Program
  w : World
  A : Around
  env : Env
  base : Heap
  fa : FA
  mg : Str → Option Value
  mb : Str → Option Value
  K : Keys
  gval : Nat → Option AV
  fns : Fns
  fz : List Addr
  /-- the frame's own cells are its own to store into -/
  ownCells : Bool

noncomputable def VarAt (C : Cx) (m : Str → Option Value) (news : Led) (x : Str) (cv : Value) : Prop :=
  if x ∈ C.K.cells then ∃ c o, C.env.cells.lookup x = some c ∧ Held C.base news c o ∧ o.data = .cell (some cv) else m x = some cv

structure RelM (C : Cx) (σ : St) (m : Str → Option Value) (ad : List Addr) (news : Led) : Prop where
  loc : ∀ n v, σ.loc n = some v → ∃ x cv, C.K.names[n]? = some x ∧ VarAt C m news x cv ∧ RV C.base C.fa ad news v cv
  len : ad.length = σ.objs.length
  obj : ∀ (i : Nat) (l : List AV), σ.objs[i]? = some l → ∃ (a : Addr) (items : List Value) (o : Obj), ad[i]? = some a ∧ (Held C.base news a o ∧ IsL o items) ∧ RVs C.base C.fa ad news l items
  own : ∀ (i : Nat), i ∈ σ.own → ∃ (a : Addr) (o : Obj), ad[i]? = some a ∧ ((a, o) ∈ news ∧ (∃ its, IsLx o its)) ∧ a ∉ C.fz
  inj : ∀ (i j : Nat) (a : Addr), ad[i]? = some a → ad[j]? = some a → i = j
  fzin : ∀ a ∈ C.fz, ∃ o, Held C.base news a o ∧ ∃ its, IsL o its
  cells : C.ownCells = true → ∀ x ∈ C.K.cells, ∃ c o, C.env.cells.lookup x = some c ∧ (c, o) ∈ news ∧ isCellObj o

structure Rel (C : Cx) (σ : St) (h : Heap) (m : Str → Option Value) (ad : List Addr) (news : Led) : Prop where
  F : Fr C.base C.env.locals h m
  N : News C.base C.env.locals h news
  M : RelM C σ m ad news

theorem Held.get {C : Cx} {σ : St} {h : Heap} {m : Str → Option Value} {ad : List Addr} {news : Led} {a : Addr} {o : Obj} (R : Rel C σ h m ad news) (x : Held C.base news a o) : h.get? a = some o :=
  x.elim (fun hm => (R.N _ hm).1) fun hb => R.F.keep _ _ hb

structure Rest (s s' : Shared) : Prop where
  eq : ∃ h tk, s' = { s with heap := h, toks := tk }
theorem Rest.refl {s : Shared} : Rest s s := ⟨_, _, rfl⟩
theorem Rest.trans {s s' s'' : Shared} (h : Rest s s') (k : Rest s' s'') : Rest s s'' := by
  obtain ⟨⟨_, _, rfl⟩⟩ := h
  obtain ⟨⟨_, _, rfl⟩⟩ := k
  exact ⟨⟨_, _, rfl⟩⟩
theorem Rest.mk' {s : Shared} {h : Heap} {tk : Nat} : Rest s { s with heap := h, toks := tk } := ⟨⟨_, _, rfl⟩⟩
theorem Rest.toks {s : Shared} {tk : Nat} : Rest s { s with toks := tk } := ⟨⟨_, _, rfl⟩⟩
theorem Rest.heap {s : Shared} {h : Heap} : Rest s { s with heap := h } := ⟨⟨_, _, rfl⟩⟩

abbrev NoE : Value → Shared → Prop := fun _ _ => False
abbrev Wp (C : Cx) {α : Type} (t : Sem α) (Q : α → Shared → Prop) (s : Shared) : Prop := wpAny (model C.prog C.w) C.A t Q NoE s

theorem withT {C : Cx} {α : Type} {t : Sem α} {Q : α → Shared → Prop} {s : Shared} (T : 0 < s.toks) (h : Wp C t (fun a s' => 0 < s'.toks → Q a s') s) : Wp C t Q s :=
  wpAny_mono (wpAny_toks h) (fun _ _ x => x.2 (Nat.lt_of_lt_of_le T x.1)) (fun _ _ x => x.2)
noncomputable def PostV (C : Cx) (Q : AV → St → Prop) (s : Shared) (ad : List Addr) (news : Led) (cv : Value) (s' : Shared) : Prop :=
  ∃ v σ' m' ad' news', Q v σ' ∧ RV C.base C.fa ad' news' v cv ∧ Rel C σ' s'.heap m' ad' news' ∧ Le C.fz ad news ad' news' ∧ Rest s s'
noncomputable def PostVs (C : Cx) (Q : List AV → St → Prop) (s : Shared) (ad : List Addr) (news : Led) (cv : List Value) (s' : Shared) : Prop :=
  ∃ v σ' m' ad' news', Q v σ' ∧ RVs C.base C.fa ad' news' v cv ∧ Rel C σ' s'.heap m' ad' news' ∧ Le C.fz ad news ad' news' ∧ Rest s s'
noncomputable def PostB (C : Cx) (Q : Bool → St → Prop) (s : Shared) (ad : List Addr) (news : Led) (b : Bool) (s' : Shared) : Prop :=
  ∃ σ' m' ad' news', Q b σ' ∧ Rel C σ' s'.heap m' ad' news' ∧ Le C.fz ad news ad' news' ∧ Rest s s'

theorem PostV.up {C : Cx} {Q : AV → St → Prop} {s₀ s : Shared} {ad₀ ad : List Addr} {news₀ news : Led} (k : Le C.fz ad₀ news₀ ad news) (r : Rest s₀ s) {cv : Value} {s' : Shared} (h : PostV C Q s ad news cv s') : PostV C Q s₀ ad₀ news₀ cv s' := by
  obtain ⟨v, σ', m', ad', news', q, rv, R, l, r'⟩ := h
  exact ⟨v, σ', m', ad', news', q, rv, R, k.trans l, r.trans r'⟩
theorem PostVs.up {C : Cx} {Q : List AV → St → Prop} {s₀ s : Shared} {ad₀ ad : List Addr} {news₀ news : Led} (k : Le C.fz ad₀ news₀ ad news) (r : Rest s₀ s) {cv : List Value} {s' : Shared} (h : PostVs C Q s ad news cv s') : PostVs C Q s₀ ad₀ news₀ cv s' := by
  obtain ⟨v, σ', m', ad', news', q, rv, R, l, r'⟩ := h
  exact ⟨v, σ', m', ad', news', q, rv, R, k.trans l, r.trans r'⟩
theorem PostB.up {C : Cx} {Q : Bool → St → Prop} {s₀ s : Shared} {ad₀ ad : List Addr} {news₀ news : Led} (k : Le C.fz ad₀ news₀ ad news) (r : Rest s₀ s) {cv : Bool} {s' : Shared} (h : PostB C Q s ad news cv s') : PostB C Q s₀ ad₀ news₀ cv s' := by
  obtain ⟨σ', m', ad', news', q, R, l, r'⟩ := h
  exact ⟨σ', m', ad', news', q, R, k.trans l, r.trans r'⟩

theorem PostV.here {C : Cx} {Q : AV → St → Prop} {σ : St} {s : Shared} {m : Str → Option Value} {ad : List Addr} {news : Led} {v : AV} {cv : Value} {tk : Nat} (R : Rel C σ s.heap m ad news) (q : Q v σ) (rv : RV C.base C.fa ad news v cv) :
    PostV C Q s ad news cv { s with toks := tk } := ⟨v, σ, m, ad, news, q, rv, R, Le.refl, Rest.toks⟩
theorem PostV.same {C : Cx} {Q : AV → St → Prop} {σ : St} {s : Shared} {m : Str → Option Value} {ad : List Addr} {news : Led} {v : AV} {cv : Value} (R : Rel C σ s.heap m ad news) (q : Q v σ) (rv : RV C.base C.fa ad news v cv) :
    PostV C Q s ad news cv s := ⟨v, σ, m, ad, news, q, rv, R, Le.refl, Rest.refl⟩

section
variable {C : Cx} {σ : St} {s : Shared} {m : Str → Option Value} {ad : List Addr} {news : Led}

theorem add_sound {a b : AV} {ca cb : Value} {Q : AV → St → Prop} (T : 0 < s.toks) (R : Rel C σ s.heap m ad news) (ra : RV C.base C.fa ad news a ca) (rb : RV C.base C.fa ad news b cb) (hh : C.A.handled = none)
    (q : addW a b σ Q) : Wp C (binaryOp .Add ca cb) (PostV C Q s ad news) s := by
  unfold addW at q
  split at q <;> first | exact False.elim q | (cases ra; cases rb)
  · exact PyProof.Rows.add_int (PostV.here R q (.int _ _))
  · exact PyProof.Rows.add_float (PostV.here R q (.float _ _ (Nat.ne_of_gt T)))
theorem minus_sound {a b : AV} {ca cb : Value} {Q : AV → St → Prop} (T : 0 < s.toks) (R : Rel C σ s.heap m ad news) (ra : RV C.base C.fa ad news a ca) (rb : RV C.base C.fa ad news b cb) (hh : C.A.handled = none)
    (q : minusW a b σ Q) : Wp C (binaryOp .Sub ca cb) (PostV C Q s ad news) s := by
  unfold minusW at q
  split at q <;> first | exact False.elim q | (cases ra; cases rb)
  · exact PyProof.Rows.sub_int (PostV.here R q (.int _ _))
  · exact PyProof.Rows.sub_float (PostV.here R q (.float _ _ (Nat.ne_of_gt T)))
theorem mult_sound {a b : AV} {ca cb : Value} {Q : AV → St → Prop} (T : 0 < s.toks) (R : Rel C σ s.heap m ad news) (ra : RV C.base C.fa ad news a ca) (rb : RV C.base C.fa ad news b cb) (hh : C.A.handled = none)
    (q : multW a b σ Q) : Wp C (binaryOp .Mult ca cb) (PostV C Q s ad news) s := by
  unfold multW at q
  split at q <;> first | exact False.elim q | (cases ra; cases rb)
  · exact PyProof.Rows.mul_int (PostV.here R q.2 (.int _ _)) q.1
  · exact PyProof.Rows.mul_float (PostV.here R q (.float _ _ (Nat.ne_of_gt T)))
  · exact PyProof.Rows.mul_if_fits q.1 (PostV.here R q.2 (.float _ _ (Nat.ne_of_gt T)))
theorem div_sound {a b : AV} {ca cb : Value} {Q : AV → St → Prop} (T : 0 < s.toks) (R : Rel C σ s.heap m ad news) (ra : RV C.base C.fa ad news a ca) (rb : RV C.base C.fa ad news b cb) (hh : C.A.handled = none)
    (q : divW a b σ Q) : Wp C (binaryOp .Div ca cb) (PostV C Q s ad news) s := by
  unfold divW at q
  split at q <;> first | exact False.elim q | (cases ra; cases rb)
  · rcases q.1.2 with h | h
    · exact Flt.div_ii_fits hh h (fun e => absurd e q.1.1) (fun _ _ => PostV.here R q.2 (.float _ _ (Nat.ne_of_gt T)))
    · exact Flt.div_ii hh (fun e => absurd e q.1.1) (fun _ e => absurd (h.symm.trans e) Bool.false_ne_true) (fun _ _ => PostV.here R q.2 (.float _ _ (Nat.ne_of_gt T)))
  · exact PyProof.Rows.truediv_float_or hh (fun e => by rw [q.1] at e; cases e) (fun _ => PostV.here R q.2 (.float _ _ (Nat.ne_of_gt T)))
theorem mod_sound {a b : AV} {ca cb : Value} {Q : AV → St → Prop} (T : 0 < s.toks) (R : Rel C σ s.heap m ad news) (ra : RV C.base C.fa ad news a ca) (rb : RV C.base C.fa ad news b cb) (hh : C.A.handled = none)
    (q : modW a b σ Q) : Wp C (binaryOp .Mod ca cb) (PostV C Q s ad news) s := by
  unfold modW at q
  split at q <;> first | exact False.elim q | (cases ra; cases rb)
  · exact PyProof.Rows.mod_int q.1 (PostV.here R q.2 (.int _ _))
  · exact Flt.mod_ff hh (fun e => by rw [q.1] at e; cases e) (fun _ => PostV.here R q.2 (.float _ _ (Nat.ne_of_gt T)))
theorem fdiv_sound {a b : AV} {ca cb : Value} {Q : AV → St → Prop} (R : Rel C σ s.heap m ad news) (ra : RV C.base C.fa ad news a ca) (rb : RV C.base C.fa ad news b cb) (hh : C.A.handled = none)
    (q : fdivW a b σ Q) : Wp C (binaryOp .FloorDiv ca cb) (PostV C Q s ad news) s := by
  unfold fdivW at q
  split at q <;> first | exact False.elim q | (cases ra; cases rb)
  · exact PyProof.Rows.floordiv_int q.1.1 (PostV.here R q.2 (.int _ _)) (.inl (PyProof.noPylong_of_log2 q.1.2))
theorem pow_sound {a b : AV} {ca cb : Value} {Q : AV → St → Prop} (R : Rel C σ s.heap m ad news) (ra : RV C.base C.fa ad news a ca) (rb : RV C.base C.fa ad news b cb) (hh : C.A.handled = none)
    (q : powW a b σ Q) : Wp C (binaryOp .Pow ca cb) (PostV C Q s ad news) s := by
  unfold powW at q
  split at q <;> first | exact False.elim q | (cases ra; cases rb)
  · exact PyProof.Rows.pow_int_small q.1.1 q.1.2.1 q.1.2.2 (PostV.here R q.2 (.int _ _))
theorem bin_sound {op : Operator} {a b : AV} {ca cb : Value} {Q : AV → St → Prop} (T : 0 < s.toks) (R : Rel C σ s.heap m ad news) (ra : RV C.base C.fa ad news a ca) (rb : RV C.base C.fa ad news b cb) (hh : C.A.handled = none)
    (q : binW op a b σ Q) : Wp C (binaryOp op ca cb) (PostV C Q s ad news) s := by
  match op, q with
  | .Add, q => exact add_sound T R ra rb hh q
  | .Sub, q => exact minus_sound T R ra rb hh q
  | .Mult, q => exact mult_sound T R ra rb hh q
  | .Div, q => exact div_sound T R ra rb hh q
  | .Mod, q => exact mod_sound T R ra rb hh q
  | .FloorDiv, q => exact fdiv_sound R ra rb hh q
  | .Pow, q => exact pow_sound R ra rb hh q

theorem cmp_sound {op : CmpOp} {a b : AV} {ca cb : Value} {Q : Bool → Prop} (R : Rel C σ s.heap m ad news) (ra : RV C.base C.fa ad news a ca) (rb : RV C.base C.fa ad news b cb) (hh : C.A.handled = none)
    (q : cmpW op a b Q) : Wp C (compareOp op ca cb) (fun cv s' => ∃ c, cv = .bool c ∧ s' = s ∧ Q c) s := by
  unfold cmpW at q
  split at q <;> first | exact False.elim q | (cases ra; cases rb)
  · cases op <;> first | (simp [isOrd] at q; done) | skip
    · exact PyProof.Rows.eq_int ⟨_, rfl, rfl, q.2⟩
    · exact PyProof.Rows.ne_int ⟨_, rfl, rfl, q.2⟩
    · exact PyProof.Rows.lt_int ⟨_, rfl, rfl, q.2⟩
    · exact PyProof.Rows.le_int ⟨_, rfl, rfl, q.2⟩
    · exact PyProof.Rows.gt_int ⟨_, rfl, rfl, q.2⟩
    · exact PyProof.Rows.ge_int ⟨_, rfl, rfl, q.2⟩
  · cases op <;> first | (simp [isOrd] at q; done) | skip
    · exact AutoFloatOps.eq_0 ⟨_, rfl, rfl, q.2⟩
    · exact AutoFloatOps.ne_0 ⟨_, rfl, rfl, q.2⟩
    · exact AutoFloatOps.lt_0 ⟨_, rfl, rfl, q.2⟩
    · exact AutoFloatOps.le_0 ⟨_, rfl, rfl, q.2⟩
    · exact AutoFloatOps.gt_0 ⟨_, rfl, rfl, q.2⟩
    · exact AutoFloatOps.ge_0 ⟨_, rfl, rfl, q.2⟩

end
end Mine
namespace Mine
open PySem PySem.W PySem.Calls PyProof.Rows PyProof.V PySem.Spec

section
variable {prog : Program} {w : World} {A : Around} {E : Value → Shared → Prop} {s : Shared} {Q : Value → Shared → Prop}
open Flt in
noncomputable def max3 (a b c : Value) : Value := if ltV a b then (if ltV b c then c else b) else (if ltV a c then c else a)
open Flt in
noncomputable def min3 (a b c : Value) : Value := if ltV b a then (if ltV c b then c else b) else (if ltV c a then c else a)
open Flt in
theorem max_three_num {a b c : Value} (hh : A.handled = none) (ha : NumV a) (hb : NumV b) (hc : NumV c)
    (h : ∀ h' tk, (∀ c o, s.heap.get? c = some o → h'.get? c = some o) → Q (max3 a b c) { s with heap := h', toks := tk }) :
    wpAny (model prog w) A (call (.builtin "max") [a, b, c]) Q E s := by
  have hT : (s.heap.push { cls := .type "tuple", data := .seq #[a, b, c] }).IsTuple s.heap.objs.size #[a, b, c] := ⟨_, Heap.get?_push_size _ rfl, rfl, 0, rfl⟩
  refine call_max_three (wpAny_pyIter_tuple hT ?_)
  have hsz : (s.heap.push { cls := .type "tuple", data := .seq #[a, b, c] }).objs.size = s.heap.objs.size + 1 := Heap.size_push ..
  refine ⟨_, [_, s.heap.objs.size], [_], _, _, _, _, rfl, Walks.tuple (A := A.in1) hh _ s.heap.objs.size (by rw [hsz]; exact Nat.ne_of_lt (Nat.lt_succ_self _)) #[a, b, c],
    ⟨⟨_, Heap.get?_push_size _ rfl, rfl, rfl⟩, hT.push _⟩, fun d hd => ?_, by simp, cmpOf_gt #[a, b, c] (by simp [ha, hb, hc]), fun v h' tk hP hk => ?_⟩
  · show d < ((s.heap.push _).push _).objs.size
    rw [Heap.size_push, hsz]
    rcases List.mem_cons.mp hd with rfl | hd
    · rw [hsz]; exact Nat.lt_succ_self _
    · rcases List.mem_cons.mp hd with rfl | hd
      · exact Nat.lt_succ_of_lt (Nat.lt_succ_self _)
      · cases hd
  · have hold : ∀ d o, s.heap.get? d = some o → h'.get? d = some o := fun d o e => by
      refine hk d o (fun hm => ?_) (Heap.get?_push_of_some _ (Heap.get?_push_of_some _ e))
      rcases List.mem_cons.mp hm with e1 | hm
      · have := Heap.lt_size e; rw [e1, hsz] at this; exact Nat.lt_irrefl _ (Nat.lt_of_succ_lt this)
      · cases hm
    have := h h' tk hold
    have hv : v = max3 a b c := by
      unfold max3
      cases h1 : ltV a b <;> cases h2 : ltV b c <;> cases h3 : ltV a c <;> simp [argBest, h1, h2, h3] at hP <;> simp [hP]
    rw [hv]; exact this
open Flt in
theorem min_three_num {a b c : Value} (hh : A.handled = none) (ha : NumV a) (hb : NumV b) (hc : NumV c)
    (h : ∀ h' tk, (∀ c o, s.heap.get? c = some o → h'.get? c = some o) → Q (min3 a b c) { s with heap := h', toks := tk }) :
    wpAny (model prog w) A (call (.builtin "min") [a, b, c]) Q E s := by
  have hT : (s.heap.push { cls := .type "tuple", data := .seq #[a, b, c] }).IsTuple s.heap.objs.size #[a, b, c] := ⟨_, Heap.get?_push_size _ rfl, rfl, 0, rfl⟩
  refine call_min_three (wpAny_pyIter_tuple hT ?_)
  have hsz : (s.heap.push { cls := .type "tuple", data := .seq #[a, b, c] }).objs.size = s.heap.objs.size + 1 := Heap.size_push ..
  refine ⟨_, [_, s.heap.objs.size], [_], _, _, _, _, rfl, Walks.tuple (A := A.in1) hh _ s.heap.objs.size (by rw [hsz]; exact Nat.ne_of_lt (Nat.lt_succ_self _)) #[a, b, c],
    ⟨⟨_, Heap.get?_push_size _ rfl, rfl, rfl⟩, hT.push _⟩, fun d hd => ?_, by simp, cmpOf_lt #[a, b, c] (by simp [ha, hb, hc]), fun v h' tk hP hk => ?_⟩
  · show d < ((s.heap.push _).push _).objs.size
    rw [Heap.size_push, hsz]
    rcases List.mem_cons.mp hd with rfl | hd
    · rw [hsz]; exact Nat.lt_succ_self _
    · rcases List.mem_cons.mp hd with rfl | hd
      · exact Nat.lt_succ_of_lt (Nat.lt_succ_self _)
      · cases hd
  · have hold : ∀ d o, s.heap.get? d = some o → h'.get? d = some o := fun d o e => by
      refine hk d o (fun hm => ?_) (Heap.get?_push_of_some _ (Heap.get?_push_of_some _ e))
      rcases List.mem_cons.mp hm with e1 | hm
      · have := Heap.lt_size e; rw [e1, hsz] at this; exact Nat.lt_irrefl _ (Nat.lt_of_succ_lt this)
      · cases hm
    have := h h' tk hold
    have hv : v = min3 a b c := by
      unfold min3
      cases h1 : ltV b a <;> cases h2 : ltV c b <;> cases h3 : ltV c a <;> simp [argBest, h1, h2, h3] at hP <;> simp [hP]
    rw [hv]; exact this

theorem fi_list : fillsInplaceSlot (.type "list") "add" (Operator.Add == .Add) = pure false := by
  unfold fillsInplaceSlot
  show (typeLookup (.type "list") (dunderI "add") >>= fun fi => pure (fi.isSome && !isSeqSlot fi)) = pure false
  rw [F.slot_list_iadd.lookup]
  rfl
theorem si_list : seqSlot? (.type "list") (dunderI "add") = pure (some (.builtin "list.__iadd__")) := PySem.seqSlot_of F.slot_list_iadd.lookup (by decide +kernel)
theorem list_iadd_any (l : Addr) (items : Array Value) (n : Nat) (b : Addr) (items2 : Array Value) (n2 : Nat) (o2 : Obj) (hc : o2.cls = .type "list") (hd : o2.data = .seq items2 n2) (hs0 : ¬(!items.isEmpty && Builtin.List.listTooLong (items.size + items2.size)) = true) (hs1 : items.size ≤ sizeLine) (hs2 : items.size + items2.size ≤ sizeLine + 1) :
    Meets (Builtin.«list.__iadd__» ⟨[.ref l, .ref b], []⟩) (fun _ R s => s.heap.get? l = some { cls := .type "list", dict := none, data := .seq items n, slots := #[] } ∧ s.heap.get? b = some o2 ∧ R (.ok (.ret (Value.ref l))) { s with heap := s.heap.update l (Obj.mapSeq fun x => x ++ items2), toks := s.toks }) :=
  .of_wp fun prog w A R s h => by
    obtain ⟨hp, g, d, tk, os⟩ := s; obtain ⟨hl, hb, h⟩ := h
    obtain ⟨c2, d2, dd2, sl2⟩ := o2
    cases hc; cases hd
    have hz' : (items ++ items2).size ≤ sizeLine + 1 := by rw [Array.size_append]; exact hs2
    wp_walk using (wpAny_updateSeq hl rfl (hz := hs1) (_hz' := hz')), wpAny_loadPart' hl, wpAny_loadPart' hb; exact ⟨_, rfl, h⟩
theorem list_iadd {l b : Addr} {items items2 : Array Value} {n : Nat} (hl : s.heap.get? l = some { cls := .type "list", data := .seq items n }) (hb : s.heap.IsList b items2)
    (hz : items.size + items2.size ≤ 2 ^ 20) (h : ∀ h', Heap.SameBut l s.heap h' → (∃ n', h'.get? l = some { cls := .type "list", data := .seq (items ++ items2) n' }) → Q (.ref l) { s with heap := h' }) :
    wpAny (model prog w) A (inplaceOp .Add (.ref l) (.ref b)) Q E s := by
  obtain ⟨o2, hb, hc, n2, hd⟩ := hb
  unfold inplaceOp
  refine wpAny_holding ?_
  have ha : s.TypeIs (.ref l) "list" := ⟨_, hl, rfl⟩
  have hb' : s.TypeIs (.ref b) "list" := ⟨_, hb, hc⟩
  refine wpAny_bind (wpAny_typeOf ha (wpAny_bind (wpAny_of_eq fi_list ?_)))
  show wpAny _ A (if false = true then _ else _) Q E s
  rw [if_neg Bool.false_ne_true]
  refine wpAny_bind (wpAny_binaryOp1_none (nm := "add") ha hb' noFill_list_add ?_)
  refine wpAny_bind (wpAny_of_eq si_list ?_)
  refine wpAny_bind (wpAny_rule ?_)
  refine call_meets F.slot_list_iadd ha F.entry_list_iadd (F.args_list_iadd_2 _ _) (list_iadd_any l items n b items2 n2 o2 hc hd ?_ ?_ ?_) ⟨hl, hb, ?_⟩
  · have : ¬ (items.size + items2.size > sizeLine) := by simp only [sizeLine]; (first | lia | omega)
    simp [Builtin.List.listTooLong, this]
  · simp only [sizeLine]; (first | lia | omega)
  · simp only [sizeLine]; (first | lia | omega)
  · refine h _ (Heap.SameBut.update ..) ?_
    exact ⟨_, Heap.get?_update_self _ hl rfl⟩
theorem isinstance_float_true {x : UInt64} {t : Tok} (h : Q (.bool true) s) : wpAny (model prog w) A (call (.builtin "isinstance") [.float x t, .type "float"]) Q E s :=
  call_isinstance (isinstance_true (Tx := "float") (by kernel_rfl) (by rw [isSubtype_type]; kernel_rfl)) ⟨typeIs_float s x t, h⟩
end
end Mine
namespace Mine
open PySem PySem.W PySem.Calls PyProof.Rows PyProof.V PySem.Spec

section
variable {M : Model} {A : Around} {E : Value → Shared → Prop} {s : Shared}
theorem same_float {x y : UInt64} {u v : Tok} {Q : Bool → Shared → Prop} (hu : u ≠ 0) (hv : v ≠ 0) (hb : NoneBooked s.heap) (hq : ∀ b, Q b s) : wpAny M A (isSame (.float x u) (.float y v)) Q E s := by
  show wpAny M A (isSame.created (x == y && !Float64.isNaN x) u v) Q E s
  unfold isSame.created
  refine wpAny_ite ?_
  have h0 : (u == 0 || v == 0) = false := by simp [hu, hv]
  split
  · rename_i h; rw [h0] at h; exact absurd h Bool.false_ne_true
  refine wpAny_ite ?_
  split
  · exact wpAny_pure (hq _)
  refine wpAny_ite ?_
  split
  · exact wpAny_pure (hq _)
  refine wpAny_bind (wpAny_sharingNotTold_none hb ?_)
  simp only [Bool.false_eq_true, if_false]
  refine wpAny_bind (wpAny_sharingNotTold_none hb ?_)
  simp only [Bool.false_eq_true, if_false]
  exact wpAny_bind (wpAny_rule (wpAny_bind (wpAny_askSetting (wpAny_pure (hq _)))))
end
section
variable {prog : Program} {w : World} {A : Around} {E : Value → Shared → Prop} {s : Shared}
end
end Mine
namespace Mine
open PySem PySem.W PySem.Calls PyProof.Rows

section
variable {prog : Program} {w : World} {A : Around} {E : Value → Shared → Prop} {s : Shared}
theorem eqAny_float {x y : UInt64} {t u : Tok} {Q : Bool → Shared → Prop} (ht : t ≠ 0) (hu : u ≠ 0) (hb : NoneBooked s.heap) (hq : ∀ b, Q b s) : wpAny (model prog w) A (eqBool (.float x t) (.float y u)) Q E s := by
  unfold eqBool
  refine wpAny_holding ?_
  refine wpAny_ite_split (fun _ => wpAny_bind (wpAny_rule (wpAny_pure (hq _)))) (fun _ => ?_)
  refine wpAny_bind (same_float ht hu hb fun b => ?_)
  cases b
  · simp only [Bool.false_eq_true, if_false]
    refine wpAny_bind ?_
    show wpAny (model prog w) A (compareOp .Eq (.float x t) (.float y u)) _ _ s
    exact AutoFloatOps.eq_0 (wpAny_truthy_bool (hq _))
  · simp only [if_true]
    exact wpAny_pure (hq _)
noncomputable def PairAt (h : Heap) (v : Value) : Prop := ∃ a i t x u n, v = .ref a ∧ h.get? a = some (seqObj "tuple" #[.int i t, .float x u] n) ∧ u ≠ 0
theorem pair_lt {v v' : Value} {Q : Bool → Shared → Prop} (hv : PairAt s.heap v) (hv' : PairAt s.heap v') (hb : NoneBooked s.heap) (hq : ∀ b, Q b s) : wpAny (model prog w) A (keyLt' (tuples' true) v v') Q E s := by
  obtain ⟨a, i, t, x, u, n, rfl, ho, hu⟩ := hv
  obtain ⟨a', i', t', x', u', n', rfl, ho', hu'⟩ := hv'
  refine kat_lt ho rfl ho' rfl (kat_cons (wpAny_eqBool_int ?_))
  refine kat_go (fun _ => kat_yes (kat_cons (eqAny_float hu hu' hb fun b => kat_go (fun _ => kat_yes (kat_nil (hq _))) fun _ => kat_no ?_))) fun _ => kat_no ?_
  · exact kat_one _ _ (AutoFloatOps.lt_0 (hq _))
  · exact oneLt_int (hq _)
theorem pairs_tups {h : Heap} : ∀ {vs : List Value}, (∀ v ∈ vs, PairAt h v) → ∃ fs : List Value, KatTups h vs fs ∧ fs.length = vs.length ∧ ∀ f ∈ fs, ∃ i t, f = .int i t
  | [], _ => ⟨[], KatTups.nil, rfl, fun _ hf => nomatch hf⟩
  | v :: vs, H => by
    obtain ⟨fs, h1, h2, h3⟩ := pairs_tups (vs := vs) fun v hv => H v (.tail _ hv)
    obtain ⟨a, i, t, x, u, n, rfl, ho, hu⟩ := H v (.head _)
    refine ⟨.int i t :: fs, KatTups.cons ho rfl rfl rfl h1, by rw [List.length_cons, List.length_cons, h2], fun f hf => ?_⟩
    rcases List.mem_cons.mp hf with rfl | hf
    · exact ⟨_, _, rfl⟩
    · exact h3 f hf
theorem pairs_kind {vs : List Value} (H : ∀ v ∈ vs, PairAt s.heap v) (hb : NoneBooked s.heap) (h2 : 2 ≤ vs.length) :
    wpAny (model prog w) A (keyKind' vs.toArray) (fun κ s' => s' = s ∧ Asks prog w A s κ (pairsOf vs)) E s := by
  obtain ⟨fs, h1, h3, h4⟩ := pairs_tups H
  refine kat_kind h1 (T := .type "int") (by omega) (fun f hf => ?_) (by decide) ⟨rfl, fun x hx y hy E Q hq => ?_⟩
  · obtain ⟨i, t, rfl⟩ := h4 f hf
    exact Looks.of_pure rfl
  · have m : ∀ x ∈ pairsOf vs, x.1 ∈ vs := fun x hx => by
      obtain ⟨i, hi, rfl⟩ := Array.mem_iff_getElem.mp hx
      simp [pairsOf]
    exact pair_lt (H _ (m x hx)) (H _ (m y hy)) hb hq
end
end Mine
namespace Mine
open PySem PySem.W PySem.Calls PyProof.Rows PyProof.V PySem.Spec

noncomputable def GV (fa : FA) : AV → Value → Prop
  | .bi b, .builtin i => i = b.id
  | .typ t, .type n => n = t.name
  | .fn k, .ref a => a = fa.addr k ∧ ∃ o fd, fa.top.get? (fa.addr k) = some o ∧ o.data = .func fd
  | _, _ => False

structure CxOK (C : Cx) : Prop where
  hh : C.A.handled = none
  htop : ∀ b o, C.fa.top.get? b = some o → C.base.get? b = some o
  units : C.A.units + 64 < cLine
  kind : C.env.scope.kind = .function
  nodup : C.K.names.Nodup
  locs : ∀ x ∈ C.K.names, (x == ("__debug__" : Str)) = false ∧ (x ∉ C.K.cells → C.env.kindOf x = some .local) ∧ (x ∈ C.K.cells → C.env.kindOf x = some .cell)
  cellinj : ∀ x ∈ C.K.cells, ∀ y ∈ C.K.cells, ∀ c, C.env.cells.lookup x = some c → C.env.cells.lookup y = some c → x = y
  cellat : ∀ x ∈ C.K.cells, ∃ c, C.env.cells.lookup x = some c
  g : C.base.Ns mainGlobals C.mg
  b : C.base.Ns builtinsNs C.mb
  nb : NoneBooked C.base
  eg : C.env.globals = mainGlobals
  eb : C.env.builtins = builtinsNs
  globs : ∀ (j : Nat) (x : Str) (v : AV), C.K.globs[j]? = some x → C.gval j = some v → ((x == ("__debug__" : Str)) = false ∧ (x ∉ C.K.far → C.env.kindOf x = some .globalImplicit)) ∧ ∃ cv, GV C.fa v cv ∧ (C.mg x = some cv ∨ (C.mg x = none ∧ C.mb x = some cv))
  call : ∀ (fz : List Addr) (k : Nat) (args : List AV) (cargs : List Value) (σ : St) (Q : AV → St → Prop) (s : Shared) (m : Str → Option Value) (ad : List Addr) (news : Led),
    0 < s.toks → Rel { C with fz := fz } σ s.heap m ad news → RVs C.base C.fa ad news args cargs → C.fns k args σ.objs (fun v objs => Q v { σ with objs := objs }) → Wp C (call (.ref (C.fa.addr k)) cargs) (PostV { C with fz := fz } Q s ad news) s
theorem CxOK.fz {C : Cx} (ok : CxOK C) (f : List Addr) : CxOK { C with fz := f } :=
  ⟨ok.hh, ok.htop, ok.units, ok.kind, ok.nodup, ok.locs, ok.cellinj, ok.cellat, ok.g, ok.b, ok.nb, ok.eg, ok.eb, ok.globs, ok.call⟩

section
variable {base : Heap} {fa : FA} {ad : List Addr} {news : Led}
theorem RVs.length : ∀ {l : List AV} {c : List Value}, RVs base fa ad news l c → l.length = c.length
  | _, _, .nil => rfl
  | _, _, .cons _ _ _ _ _ hs => by simp [hs.length]
theorem RVs.append : ∀ {l : List AV} {c : List Value} {l' : List AV} {c' : List Value}, RVs base fa ad news l c → RVs base fa ad news l' c' → RVs base fa ad news (l ++ l') (c ++ c')
  | _, _, _, _, .nil, k => k
  | _, _, _, _, .cons v vs c cs h hs, k => .cons _ _ _ _ h (hs.append k)
theorem RVs.drop : ∀ {l : List AV} {c : List Value} (n : Nat), RVs base fa ad news l c → RVs base fa ad news (l.drop n) (c.drop n)
  | _, _, 0, h => by simpa using h
  | _, _, n + 1, .nil => by simpa using RVs.nil
  | _, _, n + 1, .cons v vs c cs h hs => by simpa using hs.drop n
theorem RVs.take : ∀ {l : List AV} {c : List Value} (n : Nat), RVs base fa ad news l c → RVs base fa ad news (l.take n) (c.take n)
  | _, _, 0, h => by simpa using RVs.nil
  | _, _, n + 1, .nil => by simpa using RVs.nil
  | _, _, n + 1, .cons v vs c cs h hs => by simpa using RVs.cons _ _ _ _ h (hs.take n)
theorem RVs.pick {l : List AV} {c : List Value} (lo hi : Option Int) (h : RVs base fa ad news l c) : RVs base fa ad news (pick l lo hi) (kms_pick c lo hi) := by
  unfold Mine.pick kms_pick
  rw [← h.length]
  exact (h.drop _).take _
theorem RVs.get : ∀ {l : List AV} {c : List Value} (i : Nat) (v : AV), RVs base fa ad news l c → l[i]? = some v → ∃ cv, c[i]? = some cv ∧ RV base fa ad news v cv
  | _, _, _, _, .nil, h => by simp at h
  | _, _, 0, v, .cons v' vs c cs h hs, e => by
    simp only [List.getElem?_cons_zero, Option.some.injEq] at e
    subst e
    exact ⟨c, rfl, h⟩
  | _, _, i + 1, v, .cons v' vs c cs h hs, e => by
    simp only [List.getElem?_cons_succ] at e ⊢
    exact hs.get i v e
theorem RVs.set : ∀ {l : List AV} {c : List Value} (i : Nat) {v : AV} {cv : Value}, RVs base fa ad news l c → RV base fa ad news v cv → RVs base fa ad news (l.set i v) (c.set i cv)
  | _, _, _, _, _, .nil, _ => .nil
  | _, _, 0, _, _, .cons v' vs c cs h hs, r => .cons _ _ _ _ r hs
  | _, _, i + 1, _, _, .cons v' vs c cs h hs, r => .cons _ _ _ _ h (hs.set i r)
theorem RVs.ofInts : ∀ {c : List Value} {ns : List Int}, IntsAre c ns → RVs base fa ad news (ns.map .int) c
  | _, _, .nil => .nil
  | _, _, .cons _ _ h => .cons _ _ _ _ (.int _ _) (RVs.ofInts h)
theorem RVs.ints : ∀ {l : List AV} {c : List Value} {ns : List Int}, RVs base fa ad news l c → intsOf l = some ns → IntsAre c ns
  | _, _, _, .nil, e => by cases e; exact .nil
  | _, _, ns, .cons v vs c cs h hs, e => by
    cases h <;> first | (simp [intsOf] at e; done) | skip
    rename_i i t
    simp only [intsOf, Option.map_eq_some_iff] at e
    obtain ⟨r, hr, rfl⟩ := e
    exact .cons _ _ (hs.ints hr)
end

section
variable {C : Cx} {σ : St} {s : Shared} {m : Str → Option Value} {ad : List Addr} {news : Led}

theorem Rel.lt (R : Rel C σ s.heap m ad news) {i : Nat} {a : Addr} (h : ad[i]? = some a) : a < s.heap.objs.size := by
  have hi : i < σ.objs.length := by
    have := (List.getElem?_eq_some_iff.mp h).1
    rw [R.M.len] at this
    exact this
  obtain ⟨a', items, n, ha, hd, _⟩ := R.M.obj i _ (List.getElem?_eq_getElem hi)
  rw [h] at ha
  cases ha
  exact Heap.lt_size (hd.1.get R)
theorem Rel.fz_lt (R : Rel C σ s.heap m ad news) {a : Addr} (h : a ∈ C.fz) : a < s.heap.objs.size := by
  obtain ⟨o, ho, _⟩ := R.M.fzin a h
  exact Heap.lt_size (ho.get R)

theorem VarAt.mono {news' : Led} {x : Str} {cv : Value} (h : VarAt C m news x cv) (k : ∀ p ∈ news, p ∈ news') : VarAt C m news' x cv := by
  unfold VarAt at h ⊢
  split
  · rename_i hx
    rw [if_pos hx] at h
    obtain ⟨c, o, h1, h2, h3⟩ := h
    exact ⟨c, o, h1, h2.elim (fun y => .inl (k _ y)) .inr, h3⟩
  · rename_i hx
    rw [if_neg hx] at h
    exact h
theorem Held.mono {base : Heap} {news news' : Led} {a : Addr} {o : Obj} (h : Held base news a o) (k : ∀ p ∈ news, p ∈ news') : Held base news' a o := h.elim (fun y => .inl (k _ y)) .inr
theorem RelM.mono {news' : Led} (R : RelM C σ m ad news) (k : ∀ p ∈ news, p ∈ news') : RelM C σ m ad news' := by
  have l : Le [] ad news ad news' := .all (fun _ _ h => h) k
  refine ⟨fun n v h => ?_, R.len, fun i l' h => ?_, fun i h => ?_, R.inj, fun a h => ?_, fun hc x hx => ?_⟩
  · obtain ⟨x, cv, h1, h2, h3⟩ := R.loc n v h
    exact ⟨x, cv, h1, h2.mono k, h3.le l⟩
  · obtain ⟨a, items, o, h1, h2, h3⟩ := R.obj i l' h
    exact ⟨a, items, o, h1, ⟨h2.1.mono k, h2.2⟩, h3.le l⟩
  · obtain ⟨a, o, h1, h2, h3⟩ := R.own i h
    exact ⟨a, o, h1, ⟨k _ h2.1, h2.2⟩, h3⟩
  · obtain ⟨o, ho, hL⟩ := R.fzin a h
    exact ⟨o, ho.mono k, hL⟩
  · obtain ⟨c, o, h1, h2, h3⟩ := R.cells hc x hx
    exact ⟨c, o, h1, k _ h2, h3⟩

theorem Rel.heap (R : Rel C σ s.heap m ad news) {h' : Heap} (F : Fr C.base C.env.locals h' m) (N : News C.base C.env.locals h' news) : Rel C σ h' m ad news := ⟨F, N, R.M⟩
theorem Rel.more (R : Rel C σ s.heap m ad news) {h' : Heap} {p : Addr × Obj} (F : Fr C.base C.env.locals h' m) (N : News C.base C.env.locals h' (p :: news)) : Rel C σ h' m ad (p :: news) :=
  ⟨F, N, R.M.mono fun _ h => .tail _ h⟩
theorem RelM.alloc (R : RelM C σ m ad news) {D : Addr} {n : Nat} {l : List AV} {items : List Value} (hD : ∀ (i : Nat), ad[i]? ≠ some D) (hf : D ∉ C.fz) (hl : RVs C.base C.fa ad news l items) :
    RelM C (σ.alloc l) m (ad ++ [D]) ((D, lstObj items n) :: news) := by
  have R1 := R.mono (news' := (D, lstObj items n) :: news) fun _ h => .tail _ h
  have l1 : Le [] ad ((D, lstObj items n) :: news) (ad ++ [D]) ((D, lstObj items n) :: news) := .all snoc_pre fun _ h => h
  refine ⟨fun n v h => ?_, by simp [St.alloc, R.len], fun i k h => ?_, fun i h => ?_, ?_, R1.fzin, R1.cells⟩
  · obtain ⟨x, cv, h1, h2, h3⟩ := R1.loc n v h
    exact ⟨x, cv, h1, h2, h3.le l1⟩
  · by_cases hi : i < σ.objs.length
    · have h' : σ.objs[i]? = some k := by
        simp only [St.alloc] at h
        rw [List.getElem?_append_left hi] at h
        exact h
      obtain ⟨a, its, o, h1, h2, h3⟩ := R1.obj i k h'
      exact ⟨a, its, o, snoc_pre i a h1, h2, h3.le l1⟩
    · have hi2 : i = σ.objs.length := by
        have := (List.getElem?_eq_some_iff.mp h).1
        simp only [St.alloc, List.length_append, List.length_cons, List.length_nil] at this
        (first | lia | omega)
      subst hi2
      simp only [St.alloc, List.getElem?_concat_length, Option.some.injEq] at h
      subst h
      refine ⟨D, items, _, ?_, ⟨.inl (.head _), rfl, n, rfl⟩, hl.le Le.snoc (fz := [])⟩
      rw [← R.len, List.getElem?_concat_length]
  · rcases List.mem_cons.mp h with e | hm
    · subst e
      exact ⟨D, _, by rw [← R.len, List.getElem?_concat_length], ⟨.head _, items, n, rfl⟩, hf⟩
    · obtain ⟨a, o, ha, ho, hf'⟩ := R1.own i hm
      exact ⟨a, o, snoc_pre i a ha, ho, hf'⟩
  · intro i j a hi hj
    have key : ∀ i : Nat, (ad ++ [D])[i]? = some a → (i < ad.length ∧ ad[i]? = some a) ∨ (i = ad.length ∧ a = D) := by
      intro i hi
      by_cases h : i < ad.length
      · rw [List.getElem?_append_left h] at hi
        exact .inl ⟨h, hi⟩
      · have hi2 : i = ad.length := by
          have := (List.getElem?_eq_some_iff.mp hi).1
          simp only [List.length_append, List.length_cons, List.length_nil] at this
          (first | lia | omega)
        subst hi2
        simp only [List.getElem?_concat_length, Option.some.injEq] at hi
        exact .inr ⟨rfl, hi.symm⟩
    rcases key i hi with ⟨h1, h2⟩ | ⟨h1, h2⟩ <;> rcases key j hj with ⟨h3, h4⟩ | ⟨h3, h4⟩
    · exact R.inj i j a h2 h4
    · subst h4; exact absurd h2 (hD i)
    · subst h2; exact absurd h4 (hD j)
    · (first | lia | omega)
theorem Rel.alloc (R : Rel C σ s.heap m ad news) {h' : Heap} {D : Addr} {n : Nat} {l : List AV} {items : List Value} (F : Fr C.base C.env.locals h' m) (N : News C.base C.env.locals h' ((D, lstObj items n) :: news))
    (hD : s.heap.objs.size ≤ D) (hl : RVs C.base C.fa ad news l items) : Rel C (σ.alloc l) h' m (ad ++ [D]) ((D, lstObj items n) :: news) :=
  ⟨F, N, R.M.alloc (fun i h => absurd (R.lt h) (Nat.not_lt.mpr hD)) (fun h => absurd (R.fz_lt h) (Nat.not_lt.mpr hD)) hl⟩

theorem isList {i : Nat} {a : Addr} {l : List AV} (R : Rel C σ s.heap m ad news) (h : σ.objs[i]? = some l) (ha : ad[i]? = some a) : ∃ items : List Value, s.heap.IsList a items.toArray ∧ RVs C.base C.fa ad news l items := by
  obtain ⟨a', items, n, h1, h2, h3⟩ := R.M.obj i l h
  rw [ha] at h1
  cases h1
  exact ⟨items, ⟨_, h2.1.get R, h2.2⟩, h3⟩

theorem binL_sound {op : Operator} {a b : AV} {ca cb : Value} {Q : AV → St → Prop} (T : 0 < s.toks) (R : Rel C σ s.heap m ad news) (ra : RV C.base C.fa ad news a ca) (rb : RV C.base C.fa ad news b cb) (ok : CxOK C)
    (q : binL op a b σ Q) : Wp C (binaryOp op ca cb) (PostV C Q s ad news) s := by
  unfold binL at q
  split at q
  · obtain ⟨l, k, h1, h2, hz, q⟩ := q
    cases ra with | lst _ x hx => cases rb with | lst _ y hy =>
    obtain ⟨i1, L1, r1⟩ := isList R h1 hx
    obtain ⟨i2, L2, r2⟩ := isList R h2 hy
    refine add_lists R.F R.N L1 L2 (fun h' F' N' => ?_) (by rw [← r1.length, ← r2.length]; exact hz)
    refine ⟨_, _, m, ad ++ [s.heap.objs.size], _, q, .lst _ _ ?_, R.alloc F' N' (Nat.le_refl _) (r1.append r2), Le.snoc, Rest.heap⟩
    rw [← R.M.len, List.getElem?_concat_length]
  · cases ra with | tup l i1 a1 n1 g1 r1 => cases rb with | tup k i2 a2 n2 g2 r2 =>
    have T1 : IsTup s.heap a1 i1.toArray := ⟨_, g1.get R, rfl, n1, rfl⟩
    have T2 : IsTup s.heap a2 i2.toArray := ⟨_, g2.get R, rfl, n2, rfl⟩
    have e1 := r1.length
    have e2 := r2.length
    refine add_tuples R.F R.N T1 T2 (fun h => ?_) (fun _ h => ?_) (fun _ _ h' F' N' => ?_) (by rw [← e1, ← e2]; exact q.1.2.2)
    · rw [h] at e1; have := q.1.1; rw [e1] at this; cases this
    · rw [h] at e2; have := q.1.2.1; rw [e2] at this; cases this
    · exact ⟨_, _, m, ad, _, q.2, .tup _ (i1 ++ i2) _ 0 (.inl (.head _)) ((r1.append r2).le (fz := []) Le.cons), R.more F' N', Le.cons, Rest.heap⟩
  · exact bin_sound T R ra rb ok.hh q

theorem RV.flt {base : Heap} {fa : FA} {ad : List Addr} {news : Led} {v : AV} {c : Value} {x : UInt64} (r : RV base fa ad news v c) (h : v.flt? = some x) : ∃ t, c = .float x t ∧ t ≠ 0 := by
  cases r <;> first | (cases h; done) | skip
  rename_i t ht
  cases h
  exact ⟨t, rfl, ht⟩
theorem noneKeeps {h h' : Heap} (n : NoneBooked h) (k : ∀ b o, h.get? b = some o → h'.get? b = some o) : NoneBooked h' := by
  obtain ⟨mc, h1, h2⟩ := n
  exact ⟨mc, h1.keeps k, h2⟩
theorem cmpL_sound {op : CmpOp} {a b : AV} {ca cb : Value} {Q : Bool → Prop} (R : Rel C σ s.heap m ad news) (ra : RV C.base C.fa ad news a ca) (rb : RV C.base C.fa ad news b cb) (ok : CxOK C)
    (q : cmpL op a b σ Q) : Wp C (compareOp op ca cb) (fun cv s' => ∃ c, cv = .bool c ∧ s' = s ∧ Q c) s := by
  unfold cmpL at q
  split at q
  · obtain ⟨l, k, ns, ms, ⟨h1, h2⟩, ⟨n1, n2⟩, q⟩ := q
    cases ra with | lst _ x hx => cases rb with | lst _ y hy =>
    obtain ⟨i1, L1, r1⟩ := isList R h1 hx
    obtain ⟨i2, L2, r2⟩ := isList R h2 hy
    rcases q with ⟨rfl, q⟩ | ⟨rfl, q⟩
    · exact ke_eq_ints L1 L2 (r1.ints n1) (r2.ints n2) ok.units ⟨_, rfl, rfl, q⟩
    · exact ke_ne_ints L1 L2 (r1.ints n1) (r2.ints n2) ok.units ⟨_, rfl, rfl, q⟩
  · exact cmp_sound R ra rb ok.hh q
theorem truth_sound {v : AV} {cv : Value} {b : Bool} (R : Rel C σ s.heap m ad news) (rv : RV C.base C.fa ad news v cv) (q : truth σ v = some b) : Wp C (truthy cv) (fun c s' => (∃ tk, s' = { s with toks := tk }) ∧ c = b) s := by
  unfold truth at q
  split at q
  · cases q; cases rv; exact wpAny_truthy_bool ⟨⟨_, rfl⟩, rfl⟩
  · cases q
theorem sub_plain {i' : Expr} {o i : Value} (h : (match i' with | .Slice .. => false | _ => true) = true) : subscripted i' false o i = operate [o, i] (getItem o i) := by
  cases i' <;> first | rfl | cases h

theorem seqIdx {k : Int} {n : Nat} (h0 : 0 ≤ k) (h : k.toNat < n) : seqIndex? k n = some k.toNat := by
  unfold seqIndex?
  simp only [if_neg (Int.not_lt.mpr h0)]
  rw [if_pos (by simp; omega)]
theorem sub_sound {value slice : Expr} {o i : AV} {co ci : Value} {Q : AV → St → Prop} (R : Rel C σ s.heap m ad news) (ro : RV C.base C.fa ad news o co) (ri : RV C.base C.fa ad news i ci)
    (hp : (match slice with | .Slice .. => false | _ => true) = true) (q : subW o i σ Q) : Wp C (subscriptTail value slice co ci) (PostV C Q s ad news) s := by
  unfold subW at q
  split at q
  · obtain ⟨l, v, hl, hk, hv, q⟩ := q
    cases ro with | lst _ x hx =>
    cases ri
    obtain ⟨items, L1, r1⟩ := isList R hl hx
    obtain ⟨cv, hcv, rv⟩ := r1.get _ _ hv
    exact tail_any L1.typeIs slot_list_getitem.lookup (wpAny_getItem_list L1 hk.1 hk.2 (by simpa using hcv) (PostV.same R q rv)) (sub_plain hp)
  · obtain ⟨v, hk, hv, q⟩ := q
    cases ro with | tup l items a n hh r1 =>
    cases ri
    obtain ⟨cv, hcv, rv⟩ := r1.get _ _ hv
    have hT : IsTup s.heap a items.toArray := ⟨_, hh.get R, rfl, n, rfl⟩
    have hlt := (List.getElem?_eq_some_iff.mp hcv).1
    exact tail_any hT.typeIs slot_tuple_getitem.lookup (PyProof.Rows.getItem_tuple hT (Int.le_trans (by decide) hk.1) hk.2 (seqIdx hk.1 hlt) (by simpa using hcv) (PostV.same R q rv)) (sub_plain hp)
  · exact q.elim

theorem slice_sound {value lower upper : Option Expr} {e : Expr} {p : Pos} {o : AV} {co vl vu : Value} {lo hi : Option Int} {Q : AV → St → Prop} (R : Rel C σ s.heap m ad news) (ro : RV C.base C.fa ad news o co)
    (pl : IsPart vl lo) (pu : IsPart vu hi) (q : sliceW o lo hi σ Q) :
    Wp C (subscriptTail e (.Slice lower upper none p) co (.ref s.heap.objs.size)) (PostV C Q s ad news) { s with heap := s.heap.push { cls := .type "slice", data := .fields #[vl, vu, .none] } } := by
  unfold sliceW at q
  split at q
  · obtain ⟨l, hl, hz, q⟩ := q
    cases ro with | lst _ x hx =>
    obtain ⟨items, L1, r1⟩ := isList R hl hx
    refine tail_any (Heap.IsList.typeIs (s := { s with heap := s.heap.push { cls := .type "slice", data := .fields #[vl, vu, .none] } }) (L1.push _)) slot_list_getitem.lookup
      (wpAny_getItem_list_slice (L1.push _) (Heap.IsSliceOf.new ..) pl pu .none (by simp) ?_ (by rw [List.size_toArray, ← r1.length]; exact hz)) rfl
    have N1 := News.push (R.F.push { cls := .type "slice", data := .fields #[vl, vu, .none] }) (R.N.grown fun _ _ e => Heap.get?_push_of_some _ e) { cls := .type "list", data := .seq (slicePick items.toArray lo hi none) }
    have F1 := (R.F.push { cls := .type "slice", data := .fields #[vl, vu, .none] }).push { cls := .type "list", data := .seq (slicePick items.toArray lo hi none) }
    rw [Heap.size_push] at N1
    show PostV C Q s ad news (.ref (s.heap.push _).objs.size) _
    rw [Heap.size_push]
    rw [kms_pick_eq] at *
    refine ⟨_, _, m, ad ++ [s.heap.objs.size + 1], _, q, .lst _ _ ?_, R.alloc F1 N1 (Nat.le_succ _) (r1.pick lo hi), Le.snoc, Rest.heap⟩
    rw [← R.M.len, List.getElem?_concat_length]
  · obtain ⟨k, ⟨rfl, rfl⟩, ⟨h1, h2, h3⟩, q⟩ := q
    cases ro with | tup l items a n hh r1 =>
    cases pl with | int _ u =>
    cases pu
    have e := r1.length
    have ht' : IsTup (s.heap.push { cls := .type "slice", data := .fields #[.int k u, .none, .none] }) a items.toArray := IsTup.keeps ⟨_, hh.get R, rfl, n, rfl⟩ fun _ _ e => Heap.get?_push_of_some _ e
    refine tail_any (IsTup.typeIs (s := { s with heap := s.heap.push { cls := .type "slice", data := .fields #[.int k u, .none, .none] } }) ht') slot_tuple_getitem.lookup
      (getItem_tuple_from ht' (Heap.IsSliceOf.new ..) h1 (by rw [List.size_toArray, ← e]; exact h2) ?_ (by rw [List.size_toArray, ← e]; exact h3)) rfl
    have N1 := News.push (R.F.push { cls := .type "slice", data := .fields #[.int k u, .none, .none] }) (R.N.grown fun _ _ e => Heap.get?_push_of_some _ e) { cls := .type "tuple", data := .seq (items.toArray.toList.drop k).toArray }
    have F1 := (R.F.push { cls := .type "slice", data := .fields #[.int k u, .none, .none] }).push { cls := .type "tuple", data := .seq (items.toArray.toList.drop k).toArray }
    exact ⟨_, _, m, ad, _, q, .tup _ (items.drop k) _ 0 (.inl (.head _)) ((r1.drop k).le (fz := []) Le.cons), R.more F1 N1, Le.cons, Rest.heap⟩
  · exact q.elim

theorem args1 {base : Heap} {fa : FA} {ad : List Addr} {news : Led} {a : AV} {cs : List Value} (h : RVs base fa ad news [a] cs) : ∃ c, cs = [c] ∧ RV base fa ad news a c := by
  cases h with | cons _ _ c _ r rs => cases rs; exact ⟨c, rfl, r⟩
theorem args2 {base : Heap} {fa : FA} {ad : List Addr} {news : Led} {a b : AV} {cs : List Value} (h : RVs base fa ad news [a, b] cs) : ∃ c d, cs = [c, d] ∧ RV base fa ad news a c ∧ RV base fa ad news b d := by
  cases h with | cons _ _ c _ r rs => obtain ⟨d, rfl, r2⟩ := args1 rs; exact ⟨c, d, rfl, r, r2⟩
theorem args3 {base : Heap} {fa : FA} {ad : List Addr} {news : Led} {a b e : AV} {cs : List Value} (h : RVs base fa ad news [a, b, e] cs) : ∃ c d f, cs = [c, d, f] ∧ RV base fa ad news a c ∧ RV base fa ad news b d ∧ RV base fa ad news e f := by
  cases h with | cons _ _ c _ r rs => obtain ⟨d, f, rfl, r2, r3⟩ := args2 rs; exact ⟨c, d, f, rfl, r, r2, r3⟩
theorem len_sound {args : List AV} {cargs : List Value} {Q : AV → St → Prop} (R : Rel C σ s.heap m ad news) (ra : RVs C.base C.fa ad news args cargs) (ok : CxOK C)
    (q : lenW args σ Q) : Wp C (call (.builtin "len") cargs) (PostV C Q s ad news) s := by
  unfold lenW at q
  split at q <;> first | exact False.elim q | skip
  · obtain ⟨l, hl, hz, q⟩ := q
    obtain ⟨_, rfl, r⟩ := args1 ra
    cases r with | lst _ x hx =>
    obtain ⟨items, L1, r1⟩ := isList R hl hx
    have hz' := r1.length
    refine PyProof.Rows.len_list L1 (by simp only [List.size_toArray]; omega) ?_
    rw [List.size_toArray, ← r1.length]
    exact PostV.here R q (.int _ _)
theorem min_sound {args : List AV} {cargs : List Value} {Q : AV → St → Prop} (R : Rel C σ s.heap m ad news) (ra : RVs C.base C.fa ad news args cargs) (ok : CxOK C)
    (q : minW args σ Q) : Wp C (call (.builtin "min") cargs) (PostV C Q s ad news) s := by
  unfold minW at q
  split at q <;> first | exact False.elim q | skip
  · obtain ⟨_, _, rfl, r, r2⟩ := args2 ra
    cases r; cases r2
    exact min_two_N ok.hh R.F R.N fun h' tk F' N' => ⟨_, _, m, ad, news, q, .int _ _, R.heap F' N', Le.refl, Rest.mk'⟩
  · obtain ⟨_, _, _, rfl, r, r2, r3⟩ := args3 ra
    cases r; cases r2; cases r3
    refine min_three_num ok.hh (.float _ _) (.float _ _) (.float _ _) fun h' tk kp => ?_
    rename_i x y z t ht u hu v hv
    have hv : ∃ t', t' ≠ 0 ∧ min3 (.float x t) (.float y u) (.float z v) = .float (fmin3 x y z) t' := by
      unfold min3 fmin3 flt
      simp only [Flt.ltV]
      by_cases c0 : (Float64.cmp y x == some Ordering.lt) = true <;> by_cases c1 : (Float64.cmp z y == some Ordering.lt) = true <;> by_cases c2 : (Float64.cmp z x == some Ordering.lt) = true <;> simp only [c0, c1, c2, if_true, if_false, Bool.false_eq_true] <;> first | exact ⟨_, ht, rfl⟩ | exact ⟨_, hu, rfl⟩ | exact ⟨_, hv, rfl⟩
    obtain ⟨t', ht', hv⟩ := hv
    rw [hv]
    exact ⟨_, _, m, ad, news, q, .float _ _ ht', R.heap (R.F.grownK kp) (R.N.grown kp), Le.refl, Rest.mk'⟩
theorem max_sound {args : List AV} {cargs : List Value} {Q : AV → St → Prop} (R : Rel C σ s.heap m ad news) (ra : RVs C.base C.fa ad news args cargs) (ok : CxOK C)
    (q : maxW args σ Q) : Wp C (call (.builtin "max") cargs) (PostV C Q s ad news) s := by
  unfold maxW at q
  split at q <;> first | exact False.elim q | skip
  · obtain ⟨_, _, _, rfl, r, r2, r3⟩ := args3 ra
    cases r; cases r2; cases r3
    refine max_three_num ok.hh (.float _ _) (.float _ _) (.float _ _) fun h' tk kp => ?_
    rename_i x y z t ht u hu v hv
    have hv : ∃ t', t' ≠ 0 ∧ max3 (.float x t) (.float y u) (.float z v) = .float (fmax3 x y z) t' := by
      unfold max3 fmax3 flt
      simp only [Flt.ltV]
      by_cases c0 : (Float64.cmp x y == some Ordering.lt) = true <;> by_cases c1 : (Float64.cmp y z == some Ordering.lt) = true <;> by_cases c2 : (Float64.cmp x z == some Ordering.lt) = true <;> simp only [c0, c1, c2, if_true, if_false, Bool.false_eq_true] <;> first | exact ⟨_, ht, rfl⟩ | exact ⟨_, hu, rfl⟩ | exact ⟨_, hv, rfl⟩
    obtain ⟨t', ht', hv⟩ := hv
    rw [hv]
    exact ⟨_, _, m, ad, news, q, .float _ _ ht', R.heap (R.F.grownK kp) (R.N.grown kp), Le.refl, Rest.mk'⟩
theorem RVs.mem {base : Heap} {fa : FA} {ad : List Addr} {news : Led} : ∀ {l : List AV} {c : List Value}, RVs base fa ad news l c → ∀ v ∈ c, ∃ a ∈ l, RV base fa ad news a v
  | _, _, .nil, _, hv => nomatch hv
  | _, _, .cons a _ _ _ r rs, v, hv => by
    rcases List.mem_cons.mp hv with rfl | hv
    · exact ⟨a, .head _, r⟩
    · obtain ⟨b, hb, rb⟩ := rs.mem v hv
      exact ⟨b, .tail _ hb, rb⟩
theorem RVs.picked {base : Heap} {fa : FA} {ad : List Addr} {news : Led} {l : List AV} {c : List Value} (r : RVs base fa ad news l c) : ∀ (out : List Value), (∀ v ∈ out, v ∈ c) → ∃ l', RVs base fa ad news l' out ∧ ∀ a ∈ l', a ∈ l
  | [], _ => ⟨[], .nil, fun _ h => nomatch h⟩
  | v :: out, H => by
    obtain ⟨a, ha, ra⟩ := r.mem v (H v (.head _))
    obtain ⟨l', h1, h2⟩ := r.picked out fun v hv => H v (.tail _ hv)
    exact ⟨a :: l', .cons _ _ _ _ ra h1, fun b hb => (List.mem_cons.mp hb).elim (fun e => e ▸ ha) (h2 b)⟩
theorem RV.pair {base : Heap} {fa : FA} {ad : List Addr} {news : Led} {a : AV} {v : Value} {h : Heap} (hh : ∀ x o, Held base news x o → h.get? x = some o) (hp : isPair a = true) (r : RV base fa ad news a v) : PairAt h v := by
  cases r with
  | tup l items x n ho rs =>
    cases rs with
    | nil => cases hp
    | cons a as c cs r1 r2 =>
      cases r1 <;> first | (exact (Bool.false_ne_true hp).elim) | skip
      cases r2 with
      | nil => cases hp
      | cons b bs d ds r3 r4 =>
        cases r3 <;> first | (exact (Bool.false_ne_true hp).elim) | skip
        cases r4 with
        | nil => exact ⟨_, _, _, _, _, _, rfl, hh _ _ ho, by assumption⟩
        | cons _ _ _ _ _ _ => exact (Bool.false_ne_true hp).elim
  | _ => exact (Bool.false_ne_true hp).elim
theorem sorted_pairs_sound {i : Nat} {l : List AV} {c : Value} {Q : AV → St → Prop} (R : Rel C σ s.heap m ad news) (ok : CxOK C) (r : RV C.base C.fa ad news (.lst i) c) (hl : σ.objs[i]? = some l) (hp : l.all isPair = true) (hz : 2 ≤ l.length ∧ l.length ≤ sizeLine)
    (q : ∀ l' : List AV, l'.length = l.length → (∀ v ∈ l', v ∈ l) → Q (.lst σ.objs.length) (σ.alloc l')) : Wp C (call (.builtin "sorted") [c]) (PostV C Q s ad news) s := by
  cases r with | lst _ x hx =>
  obtain ⟨items, L1, r1⟩ := isList R hl hx
  have e1 := r1.length
  refine sorted_any R.F R.N L1 (by (first | lia | omega)) (by (first | lia | omega)) (fun A' h' hk => ?_) fun h' out e F' N' h2 h3 => ?_
  · refine pairs_kind (s := { s with heap := h' }) (fun v hv => ?_) (noneKeeps (noneKeeps ok.nb R.F.keep) hk) (by (first | lia | omega))
    obtain ⟨a, ha, ra⟩ := r1.mem v hv
    exact ra.pair (fun x o ho => hk _ _ (ho.get R)) (List.all_eq_true.mp hp a ha)
  · obtain ⟨l', h4, h5⟩ := r1.picked out h3
    refine ⟨_, _, m, ad ++ [s.heap.objs.size + 1], _, q l' (by rw [h4.length]; (first | lia | omega)) h5, .lst _ _ ?_, R.alloc (n := e) F' N' (Nat.le_succ _) h4, Le.snoc, Rest.heap⟩
    rw [← R.M.len, List.getElem?_concat_length]
theorem sorted_ints_sound {i : Nat} {l : List AV} {ns : List Int} {c : Value} {Q : AV → St → Prop} (R : Rel C σ s.heap m ad news) (r : RV C.base C.fa ad news (.lst i) c) (hl : σ.objs[i]? = some l) (hn : intsOf l = some ns) (hz : ns.length < 64)
    (q : ∀ ns' : List Int, ns'.Perm ns → ns'.Pairwise (· ≤ ·) → Q (.lst σ.objs.length) (σ.alloc (ns'.map .int))) : Wp C (call (.builtin "sorted") [c]) (PostV C Q s ad news) s := by
  cases r with | lst _ x hx =>
  obtain ⟨items, L1, r1⟩ := isList R hl hx
  have hi := r1.ints hn
  have e1 := IntsAre.length hi
  refine sorted_N R.F R.N L1 hi (by omega) fun h' vs' ns' e F' N' hI' hp' hs' => ?_
  refine ⟨_, _, m, ad ++ [s.heap.objs.size + 1], _, q ns' hp' hs', .lst _ _ ?_, R.alloc (n := e) F' N' (Nat.le_succ _) (RVs.ofInts hI'), Le.snoc, Rest.heap⟩
  rw [← R.M.len, List.getElem?_concat_length]
theorem sorted_sound {args : List AV} {cargs : List Value} {Q : AV → St → Prop} (R : Rel C σ s.heap m ad news) (ra : RVs C.base C.fa ad news args cargs) (ok : CxOK C)
    (q : sortedW args σ Q) : Wp C (call (.builtin "sorted") cargs) (PostV C Q s ad news) s := by
  unfold sortedW at q
  split at q <;> first | exact False.elim q | skip
  · obtain ⟨_, rfl, r⟩ := args1 ra
    rcases q with ⟨l, ns, ⟨hl, hn⟩, hz, q⟩ | ⟨l, ⟨hl, hp⟩, hz, q⟩
    · exact sorted_ints_sound R r hl hn hz q
    · exact sorted_pairs_sound R ok r hl hp hz q
theorem round_sound {args : List AV} {cargs : List Value} {Q : AV → St → Prop} (R : Rel C σ s.heap m ad news) (ra : RVs C.base C.fa ad news args cargs) (ok : CxOK C)
    (q : roundW args σ Q) : Wp C (call (.builtin "round") cargs) (PostV C Q s ad news) s := by
  unfold roundW at q
  split at q <;> first | exact False.elim q | skip
  · obtain ⟨_, rfl, r⟩ := args1 ra
    cases r
    exact Flt.call_round_float ok.hh (fun e => absurd (Flt.not_nan_of_finite q.1) (by rw [e]; decide)) (fun e => absurd (Flt.not_inf_of_finite q.1) (by rw [e]; decide)) fun _ => PostV.here R q.2 (.int _ _)
theorem isinst_sound {args : List AV} {cargs : List Value} {Q : AV → St → Prop} (R : Rel C σ s.heap m ad news) (ra : RVs C.base C.fa ad news args cargs) (ok : CxOK C)
    (q : isinstW args σ Q) : Wp C (call (.builtin "isinstance") cargs) (PostV C Q s ad news) s := by
  unfold isinstW at q
  split at q <;> first | exact False.elim q | skip
  · obtain ⟨_, _, rfl, r, r2⟩ := args2 ra
    cases r; cases r2
    exact isinstance_float_true (PostV.same R q (.bool _))
theorem range_sound {args : List AV} {cargs : List Value} {Q : AV → St → Prop} (R : Rel C σ s.heap m ad news) (ra : RVs C.base C.fa ad news args cargs) (ok : CxOK C)
    (q : rangeW args σ Q) : Wp C (call (.type "range") cargs) (PostV C Q s ad news) s := by
  unfold rangeW at q
  split at q <;> first | exact False.elim q | skip
  · obtain ⟨_, rfl, r⟩ := args1 ra
    cases r
    exact call_range_1 ⟨_, _, m, ad, _, q, .rng _ _ _ _ _ _ _ (.inl (.head _)), R.more (R.F.push _) (News.push R.F R.N _), Le.cons, Rest.mk'⟩
  · obtain ⟨_, _, rfl, r, r2⟩ := args2 ra
    cases r; cases r2
    exact call_range_2 ⟨_, _, m, ad, _, q, .rng _ _ _ _ _ _ _ (.inl (.head _)), R.more (R.F.push _) (News.push R.F R.N _), Le.cons, Rest.mk'⟩
  · obtain ⟨_, _, _, rfl, r, r2, r3⟩ := args3 ra
    cases r; cases r2; cases r3
    exact call_range_3 q.1.1 ⟨_, _, m, ad, _, q.2, .rng _ _ _ _ _ _ _ (.inl (.head _)), R.more (R.F.push _) (News.push R.F R.N _), Le.cons, Rest.mk'⟩ (.inl (PyProof.noPylong_of_log2 q.1.2))
theorem call_sound {f : AV} {cf : Value} {args : List AV} {cargs : List Value} {Q : AV → St → Prop} (T : 0 < s.toks) (R : Rel C σ s.heap m ad news) (rf : RV C.base C.fa ad news f cf) (ra : RVs C.base C.fa ad news args cargs) (ok : CxOK C)
    (q : callW C.fns f args σ Q) : Wp C (call cf cargs) (PostV C Q s ad news) s := by
  cases rf <;> first | exact False.elim q | skip
  · rename_i t
    cases t <;> first | exact False.elim q | skip
    · exact range_sound R ra ok q
  · rename_i b
    cases b <;> first | exact False.elim q | skip
    · exact len_sound R ra ok q
    · exact min_sound R ra ok q
    · exact max_sound R ra ok q
    · exact sorted_sound R ra ok q
    · exact round_sound R ra ok q
    · exact isinst_sound R ra ok q
  · exact ok.call C.fz _ _ _ _ _ _ _ _ _ T R ra q
end
end Mine
namespace Mine
open PySem PySem.W PySem.Calls PyProof.Rows PyProof.V PySem.Spec
section
variable {prog : Program} {w : World} {A : Around} {E : Value → Shared → Prop} {s : Shared}
end
end Mine
namespace Mine
open PySem PySem.W PySem.Calls PyProof.Rows PyProof.V PySem.Spec

noncomputable def SoundE (C : Cx) (p : PE) (e : Expr) : Prop := ∀ (σ : St) (Q : AV → St → Prop) (s : Shared) (m : Str → Option Value) (ad : List Addr) (news : Led),
  0 < s.toks → wpE C.gval C.fns p σ Q → Rel C σ s.heap m ad news → Wp C (eval e C.env) (PostV C Q s ad news) s
noncomputable def PostT (C : Cx) (Q : AV → St → Prop) (s : Shared) (ad : List Addr) (news : Led) (b : Bool) (s' : Shared) : Prop :=
  ∃ v σ' m' ad' news', truth σ' v = some b ∧ Q v σ' ∧ Rel C σ' s'.heap m' ad' news' ∧ Le C.fz ad news ad' news' ∧ Rest s s'
noncomputable def SoundT (C : Cx) (p : PE) (e : Expr) : Prop := ∀ (σ : St) (Q : AV → St → Prop) (s : Shared) (m : Str → Option Value) (ad : List Addr) (news : Led),
  0 < s.toks → wpE C.gval C.fns p σ Q → (∀ v σ', Q v σ' → ∃ b, truth σ' v = some b) → Rel C σ s.heap m ad news → Wp C (isTrue e C.env (eval e C.env)) (PostT C Q s ad news) s
noncomputable def SoundEs (C : Cx) (p : PEs) (es : List Expr) : Prop := ∀ (σ : St) (Q : List AV → St → Prop) (s : Shared) (m : Str → Option Value) (ad : List Addr) (news : Led) (pos : Pos),
  0 < s.toks → wpEs C.gval C.fns p σ Q → Rel C σ s.heap m ad news → Wp C (spliced (backTo pos (starEach es C.env))) (PostVs C Q s ad news) s
noncomputable def SoundBr (C : Cx) (isAnd : Bool) (p : PEs) (es : List Expr) : Prop := ∀ (e : Expr) (p₀ : PE) (pos : Pos) (σ : St) (Q : AV → St → Prop) (s : Shared) (m : Str → Option Value) (ad : List Addr) (news : Led), SoundE C p₀ e → SoundT C p₀ e →
  0 < s.toks → wpE C.gval C.fns p₀ σ (fun v σ₁ => wpBr C.gval C.fns isAnd p v σ₁ Q) → Rel C σ s.heap m ad news →
    Wp C (eval (.BoolOp (if isAnd then .And else .Or) (e :: es) pos) C.env) (PostV C Q s ad news) s ∧
    ((∀ v σ', Q v σ' → ∃ b, truth σ' v = some b) → ∀ whole, Wp C (isTrue (.BoolOp (if isAnd then .And else .Or) (e :: es) pos) C.env whole) (PostT C Q s ad news) s)

section
variable {C : Cx} {σ : St} {s : Shared} {m : Str → Option Value} {ad : List Addr} {news : Led}
theorem PostT.up {Q : AV → St → Prop} {s₀ s : Shared} {ad₀ ad : List Addr} {news₀ news : Led} (k : Le C.fz ad₀ news₀ ad news) (r : Rest s₀ s) {cv : Bool} {s' : Shared} (h : PostT C Q s ad news cv s') : PostT C Q s₀ ad₀ news₀ cv s' := by
  obtain ⟨v, σ', m', ad', news', t, q, R, l, r'⟩ := h
  exact ⟨v, σ', m', ad', news', t, q, R, k.trans l, r.trans r'⟩

theorem testOf {p : PE} {e : Expr} (h : SoundE C p e) (he : ∀ whole, isTrue e C.env whole = (do let v ← whole; standAt e.pos; holding [v] (truthy v))) : SoundT C p e := by
  intro σ Q s m ad news T q hq R
  refine isTrue_plain (wpAny_mono (h σ Q s m ad news T q R) (fun cv s₁ hp => ?_) fun _ _ x => x) (he _)
  obtain ⟨v, σ', m', ad', news', q', rv, R', l, r⟩ := hp
  obtain ⟨b, hb⟩ := hq v σ' q'
  refine wpAny_mono (truth_sound R' rv hb) (fun c s₂ hc => ?_) fun _ _ x => x
  obtain ⟨⟨tk, rfl⟩, rfl⟩ := hc
  exact ⟨v, σ', m', ad', news', hb, q', R', l, r.trans Rest.toks⟩

theorem brNil (ok : CxOK C) (isAnd : Bool) : SoundBr C isAnd .nil [] := by
  intro e p₀ pos σ Q s m ad news hE hT T q R
  refine ⟨BoolOp_one (hE _ _ _ _ _ _ T q R), fun hq whole => ?_⟩
  have h := hT _ _ _ _ _ _ T q hq R
  cases isAnd
  · refine isTrue_or (wpAny_mono h (fun c s₁ hp => ?_) fun _ _ x => x)
    cases c
    · exact isTrue_or_nil hp
    · exact hp
  · refine isTrue_and (wpAny_mono h (fun c s₁ hp => ?_) fun _ _ x => x)
    cases c
    · exact hp
    · exact isTrue_and_nil hp

theorem brCons (ok : CxOK C) (isAnd : Bool) {p : PE} {e : Expr} {ps : PEs} {es : List Expr} (h1 : SoundE C p e) (h2 : SoundT C p e) (h3 : SoundBr C isAnd ps es) : SoundBr C isAnd (.cons p ps) (e :: es) := by
  intro e₀ p₀ pos σ Q s m ad news hE hT T q R
  have step : ∀ (v : AV) (σ' : St) (b : Bool) (s' : Shared) m' ad' news', truth σ' v = some b → wpBr C.gval C.fns isAnd (.cons p ps) v σ' Q → Rel C σ' s'.heap m' ad' news' →
      (b = isAnd → wpE C.gval C.fns p σ' fun u σ₁ => wpBr C.gval C.fns isAnd ps u σ₁ Q) ∧ (b = !isAnd → Q v σ') := by
    intro v σ' b s' m' ad' news' hb hw R'
    obtain ⟨b', hb', hw⟩ := truthW_iff.mp hw
    rw [hb] at hb'
    cases hb'
    exact hw
  constructor
  · have hv := wpAny_toks (hE _ _ _ _ _ _ T q R)
    have key : ∀ (cv : Value) (s₁ : Shared), 0 < s₁.toks → PostV C (fun v σ₁ => wpBr C.gval C.fns isAnd (.cons p ps) v σ₁ Q) s ad news cv s₁ →
        Wp C (truthy cv) (fun c s₂ => (c = isAnd → Wp C (eval (.BoolOp (if isAnd then .And else .Or) (e :: es) pos) C.env) (PostV C Q s ad news) s₂) ∧ (c = !isAnd → PostV C Q s ad news cv s₂)) s₁ := by
      intro cv s₁ T₁ hp
      obtain ⟨v, σ', m', ad', news', q', rv, R', l, r⟩ := hp
      obtain ⟨b, hb, _⟩ := truthW_iff.mp q'
      have hw := step v σ' b s₁ m' ad' news' hb q' R'
      refine wpAny_mono (wpAny_toks (truth_sound R' rv hb)) (fun c s₂ hc => ?_) fun _ _ x => x.2
      obtain ⟨ht, ⟨tk, rfl⟩, rfl⟩ := hc
      have T₂ : 0 < tk := Nat.lt_of_lt_of_le T₁ ht
      refine ⟨fun hc => ?_, fun hc => ?_⟩
      · refine wpAny_mono ((h3 e p pos σ' Q { s₁ with toks := tk } m' ad' news' h1 h2 T₂ (hw.1 hc) R').1) (fun _ _ x => ?_) fun _ _ x => x
        exact PostV.up l (r.trans Rest.toks) x
      · exact ⟨v, σ', m', ad', news', hw.2 hc, rv, R', l, r.trans Rest.toks⟩
    cases isAnd
    · refine BoolOp_or (wpAny_mono hv (fun cv s₁ hp => wpAny_mono (key cv s₁ (Nat.lt_of_lt_of_le T hp.1) hp.2) (fun c s₂ hc => ?_) fun _ _ x => x) fun _ _ x => x.2)
      cases c
      · exact hc.1 rfl
      · exact hc.2 rfl
    · refine BoolOp_and (wpAny_mono hv (fun cv s₁ hp => wpAny_mono (key cv s₁ (Nat.lt_of_lt_of_le T hp.1) hp.2) (fun c s₂ hc => ?_) fun _ _ x => x) fun _ _ x => x.2)
      cases c
      · exact hc.2 rfl
      · exact hc.1 rfl
  · intro hq whole
    have hv := wpAny_toks (hT _ _ _ _ _ _ T q (fun v σ' hw => by obtain ⟨b, hb, _⟩ := truthW_iff.mp hw; exact ⟨b, hb⟩) R)
    have key : ∀ (c : Bool) (s₁ : Shared), 0 < s₁.toks → PostT C (fun v σ₁ => wpBr C.gval C.fns isAnd (.cons p ps) v σ₁ Q) s ad news c s₁ →
        (c = isAnd → Wp C (isTrue (.BoolOp (if isAnd then .And else .Or) (e :: es) pos) C.env whole) (PostT C Q s ad news) s₁) ∧ (c = !isAnd → PostT C Q s ad news c s₁) := by
      intro c s₁ T₁ hp
      obtain ⟨v, σ', m', ad', news', hb, q', R', l, r⟩ := hp
      have hw := step v σ' c s₁ m' ad' news' hb q' R'
      refine ⟨fun hc => ?_, fun hc => ?_⟩
      · refine wpAny_mono ((h3 e p pos σ' Q s₁ m' ad' news' h1 h2 T₁ (hw.1 hc) R').2 hq whole) (fun _ _ x => ?_) fun _ _ x => x
        exact PostT.up l r x
      · exact ⟨v, σ', m', ad', news', hb, hw.2 hc, R', l, r⟩
    cases isAnd
    · refine isTrue_or (wpAny_mono hv (fun c s₁ hp => ?_) fun _ _ x => x.2)
      cases c
      · exact (key _ _ (Nat.lt_of_lt_of_le T hp.1) hp.2).1 rfl
      · exact (key _ _ (Nat.lt_of_lt_of_le T hp.1) hp.2).2 rfl
    · refine isTrue_and (wpAny_mono hv (fun c s₁ hp => ?_) fun _ _ x => x.2)
      cases c
      · exact (key _ _ (Nat.lt_of_lt_of_le T hp.1) hp.2).2 rfl
      · exact (key _ _ (Nat.lt_of_lt_of_le T hp.1) hp.2).1 rfl
end
end Mine
namespace Mine
open PySem PySem.W PySem.Calls PyProof.Rows PyProof.V PySem.Spec

noncomputable def fullLed (base : Heap) (L : Addr) (h : Heap) : Led :=
  (List.range h.objs.size).filterMap fun a => match h.get? a with
    | some o => if a = L ∨ (base.get? a).isSome then none else some (a, o)
    | none => none
theorem mem_full {base h : Heap} {L a : Addr} {o : Obj} (ho : h.get? a = some o) (hL : a ≠ L) (hb : base.get? a = none) : (a, o) ∈ fullLed base L h := by
  refine List.mem_filterMap.mpr ⟨a, List.mem_range.mpr (Heap.lt_size ho), ?_⟩
  rw [ho]
  simp [hL, hb]
theorem full_mem {base h : Heap} {L : Addr} : News base L h (fullLed base L h) := by
  intro p hp
  obtain ⟨a, _, h2⟩ := List.mem_filterMap.mp hp
  cases ho : h.get? a with
  | none => rw [ho] at h2; cases h2
  | some o =>
    rw [ho] at h2
    simp only at h2
    split at h2
    · cases h2
    · rename_i hc
      cases h2
      simp only [not_or, Bool.not_eq_true, Option.isSome_eq_false_iff, Option.isNone_iff_eq_none] at hc
      exact ⟨ho, hc.1, hc.2⟩

section
variable {C C' : Cx} {σ σ' : St} {h h' : Heap} {m m' : Str → Option Value} {ad ad' : List Addr} {news news' : Led}

theorem Rel.full (R : Rel C σ h m ad news) : Rel C σ h m ad (fullLed C.base C.env.locals h) :=
  ⟨R.F, full_mem, R.M.mono fun p hm => mem_full (R.N _ hm).1 (R.N _ hm).2.1 (R.N _ hm).2.2⟩
noncomputable def shaped (o : Obj) : Prop := (∃ its n, o.data = .seq its n) ∨ (∃ fs, o.data = .fields fs)
mutual
theorem RV.move {base base' : Heap} {fa : FA} {ad ad' : List Addr} {news news' : Led} (hp : ∀ (i : Nat) (a : Addr), ad[i]? = some a → ad'[i]? = some a)
    (hh : ∀ a o, shaped o → Held base news a o → Held base' news' a o) : ∀ {v : AV} {c : Value}, RV base fa ad news v c → RV base' fa ad' news' v c
  | _, _, .none => .none
  | _, _, .bool b => .bool b
  | _, _, .int i t => .int i t
  | _, _, .float x t ht => .float x t ht
  | _, _, .str s t => .str s t
  | _, _, .typ n => .typ n
  | _, _, .bi n => .bi n
  | _, _, .fn j o fd h h' => .fn j o fd h h'
  | _, _, .tup l items a n h hs => .tup l items a n (hh _ _ (.inl ⟨_, _, rfl⟩) h) (RVs.move hp hh hs)
  | _, _, .lst i a h => .lst i a (hp i a h)
  | _, _, .rng a b c r t u v h => .rng a b c r t u v (hh _ _ (.inr ⟨_, rfl⟩) h)
theorem RVs.move {base base' : Heap} {fa : FA} {ad ad' : List Addr} {news news' : Led} (hp : ∀ (i : Nat) (a : Addr), ad[i]? = some a → ad'[i]? = some a)
    (hh : ∀ a o, shaped o → Held base news a o → Held base' news' a o) : ∀ {v : List AV} {c : List Value}, RVs base fa ad news v c → RVs base' fa ad' news' v c
  | _, _, .nil => .nil
  | _, _, .cons v vs c cs h hs => .cons v vs c cs (RV.move hp hh h) (RVs.move hp hh hs)
end

theorem down_RV (R : Rel C σ h m ad news) {led : Led} {v : AV} {cv : Value} (x : RV C.base C.fa ad news v cv) : RV h C.fa ad led v cv := x.move (fun _ _ h => h) fun a o _ k => .inr (k.get R)
theorem down_RVs (R : Rel C σ h m ad news) {led : Led} {v : List AV} {cv : List Value} (x : RVs C.base C.fa ad news v cv) : RVs h C.fa ad led v cv := x.move (fun _ _ h => h) fun a o _ k => .inr (k.get R)

theorem up_held (R : Rel C σ h m ad news) {b : Addr} {o : Obj} (hs : shaped o ∨ isCellObj o) (x : Held h news' b o) : Held C.base (fullLed C.base C.env.locals h ++ news') b o := by
  rcases x with x | x
  · exact .inl (List.mem_append_right _ x)
  · by_cases hb : C.base.get? b = none
    · refine .inl (List.mem_append_left _ (mem_full x ?_ hb))
      rintro rfl
      obtain ⟨oL, es, ep, e1, e2, _⟩ := R.F.ns
      rw [e1] at x
      cases x
      rcases hs with (⟨_, _, hd⟩ | ⟨_, hd⟩) | ⟨_, hd⟩ <;> rw [hd] at e2 <;> cases e2
    · cases hb' : C.base.get? b with
      | none => exact absurd hb' hb
      | some o' =>
        have := R.F.keep _ _ hb'
        rw [x] at this
        cases this
        exact .inr hb'
theorem up_RV (R : Rel C σ h m ad news) {v : AV} {cv : Value} (x : RV h C.fa ad' news' v cv) : RV C.base C.fa ad' (fullLed C.base C.env.locals h ++ news') v cv := x.move (fun _ _ h => h) fun a o s k => up_held R (.inl s) k
theorem up_RVs (R : Rel C σ h m ad news) {v : List AV} {cv : List Value} (x : RVs h C.fa ad' news' v cv) : RVs C.base C.fa ad' (fullLed C.base C.env.locals h ++ news') v cv := x.move (fun _ _ h => h) fun a o s k => up_held R (.inl s) k

theorem up_RelK (R : Rel C σ h m ad news) (keep : ∀ b o, h.get? b = some o → h'.get? b = some o) (N' : News h C'.env.locals h' news') (M' : RelM C' σ' m' ad' news') (hb : C'.base = h) (hfa : C'.fa = C.fa) (pre : ∀ (i : Nat) (a : Addr), ad[i]? = some a → ad'[i]? = some a) :
    Rel C { σ with objs := σ'.objs } h' m ad' (fullLed C.base C.env.locals h ++ news') := by
  subst hb
  have Rf := R.full
  have lk : Le (C.fz) ad (fullLed C.base C.env.locals C'.base) ad' (fullLed C.base C.env.locals C'.base ++ news') := .all pre fun _ h => List.mem_append_left _ h
  refine ⟨R.F.grownK keep, ?_, ?_⟩
  · intro p hp
    rcases List.mem_append.mp hp with hp | hp
    · exact ⟨keep _ _ (Rf.N p hp).1, (Rf.N p hp).2⟩
    · obtain ⟨e1, e2, e3⟩ := N' p hp
      refine ⟨e1, ?_, ?_⟩
      · rintro h
        obtain ⟨oL, es, ep, e4, _⟩ := R.F.ns
        rw [h, e4] at e3
        cases e3
      · cases hb' : C.base.get? p.1 with
        | none => rfl
        | some o' =>
          have h4 := R.F.keep _ _ hb'
          rw [h4] at e3
          cases e3
  · refine ⟨fun n v hv => ?_, M'.len, fun i l hl => ?_, fun i hi => ?_, M'.inj, fun a ha => ?_, fun hc x hx => ?_⟩
    · obtain ⟨x, cv, e1, e2, e3⟩ := Rf.M.loc n v hv
      exact ⟨x, cv, e1, e2.mono fun _ h => List.mem_append_left _ h, e3.le lk⟩
    · obtain ⟨b, items, o, ha, hd, rs⟩ := M'.obj i l hl
      rw [hfa] at rs
      exact ⟨b, items, o, ha, ⟨up_held R (.inl (.inl (let ⟨k, hk⟩ := hd.2.2; ⟨_, k, hk⟩))) hd.1, hd.2⟩, up_RVs R rs⟩
    · obtain ⟨a', o', ha', ho', hf'⟩ := Rf.M.own i hi
      exact ⟨a', o', pre i a' ha', ⟨List.mem_append_left _ ho'.1, ho'.2⟩, hf'⟩
    · obtain ⟨o, ho, hL⟩ := Rf.M.fzin a ha
      exact ⟨o, ho.mono fun _ h => List.mem_append_left _ h, hL⟩
    · obtain ⟨c, o, h1, h2, h3⟩ := Rf.M.cells hc x hx
      exact ⟨c, o, h1, List.mem_append_left _ h2, h3⟩
theorem up_Rel (R : Rel C σ h m ad news) (R' : Rel C' σ' h' m' ad' news') (hb : C'.base = h) (hfa : C'.fa = C.fa) (pre : ∀ (i : Nat) (a : Addr), ad[i]? = some a → ad'[i]? = some a) :
    Rel C { σ with objs := σ'.objs } h' m ad' (fullLed C.base C.env.locals h ++ news') := up_RelK R (hb ▸ R'.F.keep) (hb ▸ R'.N) R'.M hb hfa pre
theorem up_Le (R : Rel C σ h m ad news) (pre : ∀ (i : Nat) (a : Addr), ad[i]? = some a → ad'[i]? = some a) : Le C.fz ad news ad' (fullLed C.base C.env.locals h ++ news') :=
  .all pre fun p hm => List.mem_append_left _ (mem_full (R.N _ hm).1 (R.N _ hm).2.1 (R.N _ hm).2.2)

theorem Rel.update (R : Rel C σ h m ad news) {i : Nat} {D : Addr} {o' : Obj} {l : List AV} {items : List Value} (hi : ad[i]? = some D) (hm : ∃ o its, (D, o) ∈ news ∧ IsL o its) (hox : IsLx o' items)
    (hs : Heap.SameBut D h h') (hg : h'.get? D = some o') (hl : RVs C.base C.fa ad news l items) :
    Rel C { σ with objs := σ.objs.set i l } h' m ad ((D, o') :: news.filter fun p => p.1 != D) := by
  have ho := hox.toL
  obtain ⟨o₀, its₀, hm, hL₀⟩ := hm
  have hgD := (R.N _ hm).1
  have keep : ∀ b o, b ≠ D → h.get? b = some o → h'.get? b = some o := fun b o hb e => (hs.2 b hb).trans e
  have hDL : D ≠ C.env.locals := (R.N _ hm).2.1
  have other : ∀ (b : Addr) (o : Obj), (b, o) ∈ news → b ≠ D → (b, o) ∈ (D, o') :: news.filter fun p => p.1 != D := fun b o hb hne => .tail _ (List.mem_filter.mpr ⟨hb, by simpa using hne⟩)
  have notD : ∀ (b : Addr) (o : Obj), Held C.base news b o → ¬ (∃ its, IsL o its) → b ≠ D := by
    rintro b o hb hn rfl
    have := hb.get R
    rw [hgD] at this
    cases this
    exact hn ⟨_, hL₀⟩
  have heldO : ∀ (b : Addr) (o : Obj), Held C.base news b o → b ≠ D → Held C.base ((D, o') :: news.filter fun p => p.1 != D) b o := fun b o hb hne => hb.elim (fun y => .inl (other _ _ y hne)) .inr
  have rv : ∀ {v : AV} {cv : Value}, RV C.base C.fa ad news v cv → RV C.base C.fa ad ((D, o') :: news.filter fun p => p.1 != D) v cv := by
    intro v cv x
    refine x.leT ⟨fun _ _ h => h, fun a o hm' hc => other _ _ hm' (notD _ _ (.inl hm') ?_)⟩
    rintro ⟨its, h1, _⟩
    rcases hc with hc | hc <;> rw [h1] at hc <;> exact absurd hc (by decide)
  have rvs : ∀ {v : List AV} {cv : List Value}, RVs C.base C.fa ad news v cv → RVs C.base C.fa ad ((D, o') :: news.filter fun p => p.1 != D) v cv := by
    intro v cv x
    refine x.leT ⟨fun _ _ h => h, fun a o hm' hc => other _ _ hm' (notD _ _ (.inl hm') ?_)⟩
    rintro ⟨its, h1, _⟩
    rcases hc with hc | hc <;> rw [h1] at hc <;> exact absurd hc (by decide)
  have cellNot : ∀ (b : Addr) (o : Obj), Held C.base news b o → isCellObj o → b ≠ D := by
    rintro b o hb ⟨v, hv⟩
    refine notD b o hb ?_
    rintro ⟨its, _, n, h2⟩
    rw [hv] at h2
    cases h2
  refine ⟨⟨(R.F.ns.sameBut hs hDL.symm), fun b o e => keep b o (fun e' => ?_) (R.F.keep b o e), R.F.above⟩, ?_, ?_⟩
  · subst e'
    rw [(R.N _ hm).2.2] at e
    cases e
  · intro p hp
    rcases List.mem_cons.mp hp with rfl | hp
    · exact ⟨hg, (R.N _ hm).2⟩
    · obtain ⟨h1, h2⟩ := List.mem_filter.mp hp
      exact ⟨keep _ _ (by simpa using h2) (R.N p h1).1, (R.N p h1).2⟩
  · refine ⟨fun n v hv => ?_, by simp [R.M.len], fun j k hk => ?_, fun j hj => ?_, R.M.inj, fun a ha => ?_, fun hc x hx => ?_⟩
    · obtain ⟨x, cv, h1, h2, h3⟩ := R.M.loc n v hv
      refine ⟨x, cv, h1, ?_, rv h3⟩
      unfold VarAt at h2 ⊢
      split
      · rename_i hx
        rw [if_pos hx] at h2
        obtain ⟨c, o, e1, e2, e3⟩ := h2
        exact ⟨c, o, e1, heldO _ _ e2 (cellNot _ _ e2 ⟨_, e3⟩), e3⟩
      · rename_i hx
        rw [if_neg hx] at h2
        exact h2
    · by_cases hij : j = i
      · subst hij
        have hlt : j < σ.objs.length := by
          have := (List.getElem?_eq_some_iff.mp hi).1
          rw [R.M.len] at this
          exact this
        simp only [List.getElem?_set_self hlt, Option.some.injEq] at hk
        subst hk
        exact ⟨D, items, o', hi, ⟨.inl (.head _), ho⟩, rvs hl⟩
      · simp only [List.getElem?_set_ne (fun h => hij h.symm)] at hk
        obtain ⟨a, its, o, h1, h2, h3⟩ := R.M.obj j k hk
        have hne : a ≠ D := by
          rintro rfl
          exact hij (R.M.inj j i a h1 hi)
        exact ⟨a, its, o, h1, ⟨heldO _ _ h2.1 hne, h2.2⟩, rvs h3⟩
    · obtain ⟨a, o, h1, h2, h3⟩ := R.M.own j hj
      by_cases hne : a = D
      · subst hne
        exact ⟨a, o', h1, ⟨.head _, items, hox⟩, h3⟩
      · exact ⟨a, o, h1, ⟨other _ _ h2.1 hne, h2.2⟩, h3⟩
    · obtain ⟨o, ho'', hL⟩ := R.M.fzin a ha
      by_cases hne : a = D
      · subst hne
        exact ⟨o', .inl (.head _), items, ho⟩
      · exact ⟨o, heldO _ _ ho'' hne, hL⟩
    · obtain ⟨c, o, h1, h2, h3⟩ := R.M.cells hc x hx
      exact ⟨c, o, h1, other _ _ h2 (cellNot _ _ (.inl h2) h3), h3⟩
theorem update_Le {D : Addr} {o' : Obj} (hD : D ∉ C.fz) (hm : ∀ o, (D, o) ∈ news → o.cls = .type "list") : Le C.fz ad news ad ((D, o') :: news.filter fun p => p.1 != D) :=
  ⟨fun _ _ h => h, fun a o hmem hk => by
    refine .tail _ (List.mem_filter.mpr ⟨hmem, ?_⟩)
    simp only [bne_iff_ne, ne_eq]
    rintro rfl
    rcases hk with h | h
    · exact hD h
    · exact h.1 (hm o hmem)⟩
end
end Mine
namespace Mine
open PySem PySem.W PySem.Calls PyProof.Rows PyProof.V PySem.Spec

theorem nodup_inj {α : Type} {l : List α} (nd : l.Nodup) {i j : Nat} {x : α} (hi : l[i]? = some x) (hj : l[j]? = some x) : i = j := by
  have e1 := List.getElem?_eq_some_iff.mp hi
  have e2 := List.getElem?_eq_some_iff.mp hj
  have key := List.pairwise_iff_getElem.mp nd
  rcases Nat.lt_trichotomy i j with h | h | h
  · exact absurd (e1.2.trans e2.2.symm) (key i j e1.1 e2.1 h)
  · exact h
  · exact absurd (e2.2.trans e1.2.symm) (key j i e2.1 e1.1 h)

section
variable {C : Cx} {σ : St} {s : Shared} {m : Str → Option Value} {ad : List Addr} {news : Led}

noncomputable def plainIter (h : Heap) (I : Addr) : Prop := ∃ o n vs, h.get? I = some o ∧ o.cls = .type n ∧ o.data = .fields vs ∧ (n = "list_iterator" ∨ n = "range_iterator" ∨ n = "tuple_iterator")
theorem letOwned {M : Model} {A : Around} {E : Value → Shared → Prop} {target : Expr} {I : Addr} {v : Value} {Q : Unit → Shared → Prop} (h : plainIter s.heap I) (q : Q () s) : wpAny M A (letOwnedTupleGo target (.ref I) v) Q E s := by
  obtain ⟨o, n, vs, h1, h2, h3, h4⟩ := h
  have key : ∀ (v : Value), wpAny M A (do
    let (.ref r, .ref a) := ((.ref I : Value), v) | return
    let o ← load r
    match o.cls, o.data with
    | .type n, .fields vs =>
      if ["enumerate", "zip", "dict_itemiterator", "dict_reverseitemiterator", "odict_iterator", "itertools.zip_longest", "itertools.pairwise"].contains n && vs[0]? == some (rawInt a) then
        rule "for.unpacks-the-owned-tuple"
        updateField r 0 .none
    | _, _ => pure ()) Q E s := by
    intro v
    cases v <;> first | exact wpAny_pure q | skip
    refine wpAny_bind (wpAny_load h1 ?_)
    rw [h2, h3]
    have hn : (["enumerate", "zip", "dict_itemiterator", "dict_reverseitemiterator", "odict_iterator", "itertools.zip_longest", "itertools.pairwise"].contains n) = false := by
      rcases h4 with rfl | rfl | rfl <;> decide
    simp only [hn, Bool.false_and, Bool.false_eq_true, if_false]
    exact wpAny_pure q
  cases target <;> first | exact wpAny_pure q | exact key v

theorem RelM.set (R : RelM C σ m ad news) (nd : C.K.names.Nodup) {n : Nat} {x : Str} {v : AV} {cv : Value} (hx : C.K.names[n]? = some x) (hc : x ∉ C.K.cells) (rv : RV C.base C.fa ad news v cv) :
    RelM C (σ.set n v) (fun y => if y = x then some cv else m y) ad news := by
  refine ⟨fun k u h => ?_, R.len, R.obj, R.own, R.inj, R.fzin, R.cells⟩
  simp only [St.set, upd] at h
  by_cases hk : k = n
  · subst hk
    simp only [if_true, Option.some.injEq] at h
    subst h
    exact ⟨x, cv, hx, by unfold VarAt; rw [if_neg hc]; simp, rv⟩
  · simp only [hk, if_false] at h
    obtain ⟨y, cu, h1, h2, h3⟩ := R.loc k u h
    refine ⟨y, cu, h1, ?_, h3⟩
    have hne : y ≠ x := by
      rintro rfl
      exact hk (nodup_inj nd h1 hx)
    unfold VarAt at h2 ⊢
    split
    · rename_i hy; rw [if_pos hy] at h2; exact h2
    · rename_i hy; rw [if_neg hy] at h2; simp [hne, h2]

theorem store_sound (ok : CxOK C) {n : Nat} {x : Str} {v : AV} {cv : Value} {P : Unit → Shared → Prop} (hx : C.K.names[n]? = some x)
    (hoc : x ∈ C.K.cells → C.ownCells = true) (R : Rel C σ s.heap m ad news) (rv : RV C.base C.fa ad news v cv)
    (h : ∀ h' tk m' news', Rel C (σ.set n v) h' m' ad news' → Le C.fz ad news ad news' → P () { s with heap := h', toks := tk }) : Wp C (storeName C.env x cv) P s := by
  obtain ⟨hd, hl, hc⟩ := ok.locs x (List.mem_of_getElem? hx)
  by_cases hcell : x ∈ C.K.cells
  · obtain ⟨c, o, h1, h2, hco⟩ := R.M.cells (hoc hcell) x hcell
    obtain ⟨v₀, hv₀⟩ := hco
    have hgc := (R.N _ h2).1
    refine wpAny_storeName_cell ok.kind (hc hcell) h1 ⟨o, hgc, hv₀⟩ fun h' hic hs => ?_
    obtain ⟨o', ho', hd'⟩ := hic
    have keep : ∀ b o, b ≠ c → s.heap.get? b = some o → h'.get? b = some o := fun b o hb e => (hs.2 b hb).trans e
    have other : ∀ (b : Addr) (o : Obj), (b, o) ∈ news → b ≠ c → (b, o) ∈ (c, o') :: news.filter fun p => p.1 != c := fun b o hb hne => .tail _ (List.mem_filter.mpr ⟨hb, by simpa using hne⟩)
    have notC : ∀ (b : Addr) (o : Obj), Held C.base news b o → ¬ isCellObj o → b ≠ c := by
      rintro b o hb hn rfl
      have := hb.get R
      rw [hgc] at this
      cases this
      exact hn ⟨_, hv₀⟩
    have heldO : ∀ (b : Addr) (o : Obj), Held C.base news b o → b ≠ c → Held C.base ((c, o') :: news.filter fun p => p.1 != c) b o := fun b o hb hne => hb.elim (fun y => .inl (other _ _ y hne)) .inr
    have lk : Le C.fz ad news ad ((c, o') :: news.filter fun p => p.1 != c) := ⟨fun _ _ h => h, fun a o hm hk => by
      refine other _ _ hm (notC _ _ (.inl hm) ?_)
      rcases hk with hk | hk
      · rintro ⟨w, hw⟩
        obtain ⟨o2, ho2, its, _, n2, hd2⟩ := R.M.fzin a hk
        have e2 := ho2.get R
        rw [(R.N _ hm).1] at e2
        cases e2
        rw [hw] at hd2
        cases hd2
      · exact hk.2⟩
    have hcL : c ≠ C.env.locals := (R.N _ h2).2.1
    have listNot : ∀ (b : Addr) (o : Obj), Held C.base news b o → (∃ its, IsL o its) → b ≠ c := by
      rintro b o hb ⟨its, _, n, hn⟩
      refine notC b o hb ?_
      rintro ⟨w, hw⟩
      rw [hw] at hn
      cases hn
    refine h h' s.toks m ((c, o') :: news.filter fun p => p.1 != c) ⟨⟨R.F.ns.sameBut hs hcL.symm, fun b o e => keep b o (fun e' => ?_) (R.F.keep b o e), R.F.above⟩, ?_, ?_⟩ lk
    · subst e'
      rw [(R.N _ h2).2.2] at e
      cases e
    · intro p hp
      rcases List.mem_cons.mp hp with rfl | hp
      · exact ⟨ho', (R.N _ h2).2⟩
      · obtain ⟨e1, e2⟩ := List.mem_filter.mp hp
        exact ⟨keep _ _ (by simpa using e2) (R.N p e1).1, (R.N p e1).2⟩
    · refine ⟨fun k u hk => ?_, R.M.len, fun j l hl => ?_, fun j hj => ?_, R.M.inj, fun a ha => ?_, fun hc' y hy => ?_⟩
      · simp only [St.set, upd] at hk
        by_cases hkn : k = n
        · subst hkn
          simp only [if_true, Option.some.injEq] at hk
          subst hk
          exact ⟨x, cv, hx, by unfold VarAt; rw [if_pos hcell]; exact ⟨c, o', h1, .inl (.head _), hd'⟩, rv.le lk⟩
        · simp only [hkn, if_false] at hk
          obtain ⟨y, cu, g1, g2, g3⟩ := R.M.loc k u hk
          have hne : y ≠ x := by
            rintro rfl
            exact hkn (nodup_inj ok.nodup g1 hx)
          refine ⟨y, cu, g1, ?_, g3.le lk⟩
          unfold VarAt at g2 ⊢
          split
          · rename_i hy
            rw [if_pos hy] at g2
            obtain ⟨d, od, f1, f2, f3⟩ := g2
            refine ⟨d, od, f1, heldO _ _ f2 ?_, f3⟩
            rintro rfl
            exact hne (ok.cellinj y hy x hcell d f1 h1)
          · rename_i hy
            rw [if_neg hy] at g2
            exact g2
      · obtain ⟨a, its, oo, g1, g2, g3⟩ := R.M.obj j l hl
        exact ⟨a, its, oo, g1, ⟨heldO _ _ g2.1 (listNot _ _ g2.1 ⟨_, g2.2⟩), g2.2⟩, g3.le lk⟩
      · obtain ⟨a, oo, g1, g2, g3⟩ := R.M.own j hj
        exact ⟨a, oo, g1, ⟨other _ _ g2.1 (listNot _ _ (.inl g2.1) (g2.2.imp fun _ h => h.toL)), g2.2⟩, g3⟩
      · obtain ⟨oo, g1, g2⟩ := R.M.fzin a ha
        exact ⟨oo, heldO _ _ g1 (listNot _ _ g1 g2), g2⟩
      · obtain ⟨d, od, g1, g2, g3⟩ := R.M.cells hc' y hy
        by_cases hd : d = c
        · subst hd
          exact ⟨d, o', g1, .head _, _, hd'⟩
        · exact ⟨d, od, g1, other _ _ g2 hd, g3⟩
  · refine wpAny_storeName_local (hl hcell) R.F.ns (fun h' hn hs => ?_) (by rw [ok.kind]; rfl)
    exact h h' (s.toks + 1) _ news ⟨R.F.set hn hs, R.N.set hs, R.M.set ok.nodup hx hcell rv⟩ Le.refl
end
end Mine
namespace Mine
open PySem PySem.W PySem.Calls PyProof.Rows PyProof.V PySem.Spec

noncomputable def Tgt.ids : Tgt → List Nat
  | .name n => [n]
  | .tup ns => ns
section
variable {C : Cx} {σ : St} {s : Shared} {m : Str → Option Value} {ad : List Addr} {news : Led}

noncomputable def mayStore (C : Cx) (ns : List Nat) : Prop := ∀ n ∈ ns, ∀ x, C.K.names[n]? = some x → x ∈ C.K.cells → C.ownCells = true

theorem inOrder_sound (ok : CxOK C) {P : Unit → Shared → Prop} : ∀ (ns : List Nat) (es : List Expr) (vs : List AV) (cvs : List Value) (σ : St) (s : Shared) (m : Str → Option Value) (news : Led),
    ns.length = es.length → ((ns.zip es).all fun p => match p.2 with | .Name x _ => C.K.names[p.1]? == some x | _ => false) = true → mayStore C ns → vs.length = ns.length → RVs C.base C.fa ad news vs cvs → Rel C σ s.heap m ad news →
    (∀ h' tk m' news', Rel C (setAll σ ns vs) h' m' ad news' → Le C.fz ad news ad news' → P () { s with heap := h', toks := tk }) → Wp C (assignInOrder ((assignEach es C.env).map (·.2)) cvs) P s
  | [], [], [], cvs, σ, s, m, news, _, _, _, _, rv, R, h => assignInOrder_nil (h s.heap s.toks m news R Le.refl)
  | [], [], _ :: _, cvs, σ, s, m, news, _, _, _, h, _, _, _ => by cases h
  | [], _ :: _, _, cvs, σ, s, m, news, h, _, _, _, _, _, _ => by cases h
  | _ :: _, [], _, cvs, σ, s, m, news, h, _, _, _, _, _, _ => by cases h
  | _ :: _, _ :: _, [], cvs, σ, s, m, news, _, _, _, h, _, _, _ => by cases h
  | n :: ns, e :: es, v :: vs, cvs, σ, s, m, news, hl, hz, hs, hv, rv, R, h => by
    cases rv with | cons _ _ cv cvs' rv rvs =>
    simp only [List.zip_cons_cons, List.all_cons, Bool.and_eq_true] at hz
    obtain ⟨hz1, hz2⟩ := hz
    cases e <;> first | (cases hz1; done) | skip
    rename_i x px
    have hx : C.K.names[n]? = some x := eq_of_beq hz1
    show Wp C (assignInOrder (assign (.Name x px) C.env :: (assignEach es C.env).map (·.2)) (cv :: cvs')) P s
    refine assignInOrder_cons (PyProof.Rows.assign_Name (store_sound ok hx (fun hc => hs n (.head _) x hx hc) R rv fun h' tk m' news' R' l' => ?_))
    refine inOrder_sound ok ns es vs cvs' (σ.set n v) { s with heap := h', toks := tk } m' news' (by simpa using hl) hz2 (fun k hk => hs k (.tail _ hk)) (by simpa using hv) (rvs.le l') R' fun h₂ tk₂ m₂ news₂ R₂ l₂ => ?_
    exact h h₂ tk₂ m₂ news₂ R₂ (l'.trans l₂)

theorem each_len (env : Env) : ∀ es : List Expr, (assignEach es env).length = es.length
  | [] => rfl
  | e :: es => by
    have := each_len env es
    cases e <;> simp [assignEach, this]
theorem each_star (env : Env) (K : Keys) : ∀ (ns : List Nat) (es : List Expr), ns.length = es.length → ((ns.zip es).all fun p => match p.2 with | .Name x _ => K.names[p.1]? == some x | _ => false) = true → (assignEach es env).findIdx? (·.1) = none
  | [], [], _, _ => rfl
  | n :: ns, e :: es, hl, hz => by
    simp only [List.zip_cons_cons, List.all_cons, Bool.and_eq_true] at hz
    have := each_star env K ns es (by simpa using hl) hz.2
    cases e <;> first | (cases hz.1; done) | skip
    simp [assignEach, List.findIdx?_cons, this]
  | [], _ :: _, h, _ => by cases h
  | _ :: _, [], h, _ => by cases h

theorem bind_sound (ok : CxOK C) {t : Tgt} {e : Expr} {v : AV} {cv : Value} {K : St → Prop} {P : Unit → Shared → Prop} (hm : mT C.K t e = true) (hs : mayStore C t.ids) (q : bindW t v σ K) (R : Rel C σ s.heap m ad news) (rv : RV C.base C.fa ad news v cv)
    (h : ∀ σ' h' tk m' news', K σ' → Rel C σ' h' m' ad news' → Le C.fz ad news ad news' → P () { s with heap := h', toks := tk }) : Wp C (assign e C.env cv) P s := by
  cases t with
  | name n =>
    cases e <;> first | (cases hm; done) | skip
    rename_i x px
    exact PyProof.Rows.assign_Name (store_sound ok (eq_of_beq hm) (fun hc => hs n (.head _) x (eq_of_beq hm) hc) R rv fun h' tk m' news' R' l' => h _ h' tk m' news' q R' l')
  | tup ns =>
    cases e <;> first | (cases hm; done) | skip
    rename_i es k pos
    simp only [mT, Bool.and_eq_true, beq_iff_eq] at hm
    have core : ∀ (items : List Value) (l : List AV) (h' : Heap), RVs C.base C.fa ad news l items → l.length = ns.length → K (setAll σ ns l) → Rel C σ h' m ad news → Wp C (assignInOrder ((assignEach es C.env).map (·.2)) items) P { s with heap := h' } :=
      fun items l h' rvs hl q' R' => inOrder_sound ok ns es l items σ { s with heap := h' } m news hm.1 hm.2 hs hl rvs R' fun h₂ tk₂ m₂ news₂ R₂ l₂ => h _ h₂ tk₂ m₂ news₂ q' R₂ l₂
    simp only [bindW, partsW] at q
    split at q
    · rename_i l
      obtain ⟨hl, q⟩ := q
      cases rv with | tup _ items a n hd rvs =>
      refine unpackN_ R.F R.N (t := a) (items := items.toArray) ⟨_, hd.get R, rfl, _, rfl⟩ ok.hh (by rw [each_len]; simp only [List.size_toArray]; rw [← rvs.length, hl, hm.1]) (each_star _ _ ns es hm.1 hm.2) fun h' F' N' => ?_
      exact core items l h' rvs hl q (R.heap F' N')
    · rename_i j
      obtain ⟨l, hj, hl, q⟩ := q
      cases rv with | lst _ a ha =>
      obtain ⟨items, L1, rvs⟩ := isList R hj ha
      refine kun_list R.F R.N (l := a) (items := items.toArray) L1 ok.hh (by rw [each_len]; simp only [List.size_toArray]; rw [← rvs.length, hl, hm.1]) (each_star _ _ ns es hm.1 hm.2) fun h' F' N' => ?_
      exact core items l h' rvs hl q (R.heap F' N')
    · exact q.elim
end
end Mine
namespace Mine
open PySem PySem.W PySem.Calls PyProof.Rows PyProof.V PySem.Spec
section
variable {C : Cx} {σ : St} {s : Shared} {m : Str → Option Value} {ad : List Addr} {news : Led}
theorem RVs.reverse {base : Heap} {fa : FA} : ∀ {l : List AV} {c : List Value}, RVs base fa ad news l c → RVs base fa ad news l.reverse c.reverse
  | _, _, .nil => .nil
  | _, _, .cons v vs c cs r rs => by
    rw [List.reverse_cons, List.reverse_cons]
    exact (rs.reverse).append (.cons _ _ _ _ r .nil)
theorem swap_none {es vs : List Expr} {k k' : Nat} {p p' : Pos} (h : vs.all (foldedForSure 8) = true) : swappedStores [.Tuple es k p] (.Tuple vs k' p') C.env = pure none := by
  unfold swappedStores
  simp only
  split
  · rfl
  split
  · rfl
  split
  · rfl
  rfl
end
end Mine
namespace Mine
open PySem PySem.W PySem.Calls PyProof.Rows PyProof.V PySem.Spec

structure Iter (C : Cx) (items : List AV) (ad : List Addr) (news : Led) (I : Addr) (fp fs : List Addr) (P : Nat → Value → Prop) (St : Nat → Heap → Prop) : Prop where
  W : Walks C.prog C.w C.A I fp [I] items.length P St
  item : ∀ i cv, P i cv → i < items.length → ∃ u, items[i]? = some u ∧ RV C.base C.fa ad news u cv
  fpIn : ∀ b ∈ fp, b = I ∨ ∃ o, Held C.base news b o ∧ (b ∈ fs ∨ (o.cls ≠ .type "list" ∧ ¬ isCellObj o))
  plain : ∀ i h, St i h → plainIter h I

noncomputable def fsOf (v : AV) (ad : List Addr) (fs : List Addr) : Prop := (∃ j ax, v = .lst j ∧ ad[j]? = some ax ∧ fs = [ax]) ∨ ((∀ j, v ≠ .lst j) ∧ fs = [])

theorem it_bad {h : Heap} {I : Addr} (p : plainIter h I) : ∃ o, h.get? I = some o ∧ ¬ good o := by
  obtain ⟨o, n, v, e, c, d, t⟩ := p
  refine ⟨o, e, ?_⟩
  rintro (h | h | h | ⟨w, h⟩)
  · rw [c] at h; rcases t with rfl | rfl | rfl <;> exact absurd h (by decide)
  · rw [c] at h; rcases t with rfl | rfl | rfl <;> exact absurd h (by decide)
  · rw [c] at h; rcases t with rfl | rfl | rfl <;> exact absurd h (by decide)
  · rw [d] at h; cases h
theorem bad_keep {o : Obj} (h : ¬ good o) : o.cls ≠ .type "list" ∧ ¬ isCellObj o := ⟨fun x => h (.inr (.inl x)), fun x => h (.inr (.inr (.inr x)))⟩
theorem sub_filter {base h : Heap} {L I : Addr} {news : Led} {oI : Obj} (N : News base L h news) (hI : (I, oI) ∈ news) (hb : ¬ good oI) (a : Addr) (o : Obj) (hm : (a, o) ∈ news) (hg : good o) : (a, o) ∈ news.filter fun p => p.1 != I := by
  refine List.mem_filter.mpr ⟨hm, ?_⟩
  simp only [bne_iff_ne, ne_eq]
  rintro rfl
  have e1 := (N _ hm).1
  have e2 := (N _ hI).1
  rw [e1] at e2
  cases e2
  exact hb hg
theorem keep_it {base h h' : Heap} {L I : Addr} {m : Str → Option Value} {news : Led} (F : Fr base L h m) (N : News base L h news) (fresh : base.get? I = none) (hIL : I ≠ L) (hn : ∀ p ∈ news, p.1 ≠ I)
    (hk : ∀ b o', b ∉ [I] → h.get? b = some o' → h'.get? b = some o') : Fr base L h' m ∧ News base L h' news := by
  refine ⟨⟨Heap.Ns.at' F.ns fun o' e => hk _ o' (fun hb => hIL (List.mem_singleton.mp hb).symm) e, fun b o' e => hk b o' (fun hb => ?_) (F.keep b o' e), F.above⟩, fun p hp => ⟨hk _ _ (fun hb => hn p hp (List.mem_singleton.mp hb)) (N p hp).1, (N p hp).2⟩⟩
  have hb := List.mem_singleton.mp hb
  subst hb
  rw [fresh] at e
  cases e

section
variable {C : Cx} {σ : St} {s : Shared} {m : Str → Option Value} {ad : List Addr} {news : Led}

theorem iter_sound (ok : CxOK C) {v : AV} {cv : Value} {K : List AV → Prop} {Q : Value → Shared → Prop} (q : itemsW v σ K) (R : Rel C σ s.heap m ad news) (rv : RV C.base C.fa ad news v cv)
    (h : ∀ items io fp fs P St, K items → Iter C items ad news s.heap.objs.size fp fs P St → fsOf v ad fs → St 0 (s.heap.push io) → (∀ b ∈ fp, b ≤ s.heap.objs.size) → Q (.ref s.heap.objs.size) { s with heap := s.heap.push io }) :
    Wp C (pyIter cv) Q s := by
  unfold itemsW at q
  split at q
  · rename_i a b c
    obtain ⟨⟨hsm, hc⟩, q⟩ := q
    cases rv with | rng _ _ _ r t u w hd =>
    have hr : IsRange s.heap r a b c t u w := hd.get R
    have hn : (Builtin.Range.rangeSize a b c) = ((Builtin.Range.rangeSize a b c).toNat : Int) := by
      have e0 : 0 ≤ Builtin.Range.rangeSize a b c := by
        unfold Builtin.Range.rangeSize
        rw [if_pos hc]
        split
        · have := Int.ediv_nonneg (a := b - a - 1) (b := c) (by (first | lia | omega)) (by (first | lia | omega))
          (first | lia | omega)
        · (first | lia | omega)
      (first | lia | omega)
    have hlen : (rngItems a b c).length = (Builtin.Range.rangeSize a b c).toNat := by simp [rngItems]
    refine wpAny_pyIter_range hr hsm (h (rngItems a b c) _ [s.heap.objs.size] [] _ _ q ⟨by rw [hlen]; exact (Walks.range ok.hh s.heap.objs.size a c _), ?_, ?_, ?_⟩ (.inr ⟨fun j h => (by cases h), rfl⟩) ?_ ?_)
    · rintro i cv ⟨t', rfl⟩ hi
      rw [hlen] at hi
      refine ⟨.int (a + (i : Int) * c), ?_, .int _ _⟩
      simp [rngItems, hi]
    · intro b hb
      exact .inl (List.mem_singleton.mp hb)
    · intro i h st
      exact ⟨_, _, _, st, rfl, rfl, .inr (.inl rfl)⟩
    · show IsRangeIter _ _ _ _ _
      rw [hn]
      simpa using Heap.get?_push_size _ rfl
    · intro b hb
      rw [List.mem_singleton.mp hb]
      exact Nat.le_refl _
  · rename_i j
    obtain ⟨l, hj, q⟩ := q
    cases rv with | lst _ ax ha =>
    obtain ⟨items, L1, rvs⟩ := isList R hj ha
    have hlt : ax < s.heap.objs.size := R.lt ha
    obtain ⟨a', its, o, h1, h2, h3⟩ := R.M.obj j l hj
    rw [ha] at h1
    cases h1
    refine wpAny_pyIter_list L1 (h l _ [s.heap.objs.size, ax] [ax] _ _ q ⟨by rw [rvs.length, ← List.size_toArray]; exact Walks.list ok.hh s.heap.objs.size ax (Nat.ne_of_lt hlt) items.toArray, ?_, ?_, ?_⟩ (.inl ⟨j, ax, rfl, ha, rfl⟩) ?_ ?_)
    · intro i cv hp hi
      obtain ⟨cv', e1, e2⟩ := rvs.get i _ (List.getElem?_eq_getElem hi)
      have : items[i]? = some cv := by simpa using hp
      rw [e1] at this
      cases this
      exact ⟨_, List.getElem?_eq_getElem hi, e2⟩
    · intro b hb
      rcases List.mem_cons.mp hb with rfl | hb
      · exact .inl rfl
      · have := List.mem_singleton.mp hb
        subst this
        exact .inr ⟨o, h2.1, .inl (.head _)⟩
    · rintro i h ⟨⟨o, e1, e2, e3⟩, _⟩
      exact ⟨o, _, _, e1, e2, e3, .inl rfl⟩
    · exact ⟨⟨_, Heap.get?_push_size _ rfl, rfl, rfl⟩, L1.push _⟩
    · intro b hb
      rcases List.mem_cons.mp hb with rfl | hb
      · exact Nat.le_refl _
      · rw [List.mem_singleton.mp hb]; exact Nat.le_of_lt hlt
  · rename_i l
    cases rv with | tup _ items ax n hd rvs =>
    have hg := hd.get R
    have hlt : ax < s.heap.objs.size := Heap.lt_size hg
    have T1 : s.heap.IsTuple ax items.toArray := ⟨_, hg, rfl, n, rfl⟩
    refine wpAny_pyIter_tuple T1 (h l _ [s.heap.objs.size, ax] [] _ _ q ⟨by rw [rvs.length, ← List.size_toArray]; exact Walks.tuple ok.hh s.heap.objs.size ax (Nat.ne_of_lt hlt) items.toArray, ?_, ?_, ?_⟩ (.inr ⟨fun j h => (by cases h), rfl⟩) ?_ ?_)
    · intro i cv hp hi
      obtain ⟨cv', e1, e2⟩ := rvs.get i _ (List.getElem?_eq_getElem hi)
      have : items[i]? = some cv := by simpa using hp
      rw [e1] at this
      cases this
      exact ⟨_, List.getElem?_eq_getElem hi, e2⟩
    · intro b hb
      rcases List.mem_cons.mp hb with rfl | hb
      · exact .inl rfl
      · have := List.mem_singleton.mp hb
        subst this
        exact .inr ⟨_, hd, .inr ⟨by simp, by rintro ⟨v, h⟩; cases h⟩⟩
    · rintro i h ⟨⟨o, e1, e2, e3⟩, _⟩
      exact ⟨o, _, _, e1, e2, e3, .inr (.inr rfl)⟩
    · exact ⟨⟨_, Heap.get?_push_size _ rfl, rfl, rfl⟩, T1.push _⟩
    · intro b hb
      rcases List.mem_cons.mp hb with rfl | hb
      · exact Nat.le_refl _
      · rw [List.mem_singleton.mp hb]; exact Nat.le_of_lt hlt
  · exact q.elim

theorem RelM.freeze (R : RelM C σ m ad news) {v : AV} {cv : Value} {fs : List Addr} (hf : fsOf v ad fs) (hl : ∀ j, v = .lst j → ∃ l, σ.objs[j]? = some l) : RelM { C with fz := fs ++ C.fz } { σ with own := frozen v σ.own } m ad news := by
  rcases hf with ⟨j, ax, rfl, ha, rfl⟩ | ⟨hn, rfl⟩
  · refine ⟨R.loc, R.len, R.obj, fun i hi => ?_, R.inj, fun a ha' => ?_, R.cells⟩
    · simp only [frozen, List.mem_filter, bne_iff_ne, ne_eq] at hi
      obtain ⟨a, o, h1, h2, h3⟩ := R.own i hi.1
      refine ⟨a, o, h1, h2, ?_⟩
      show a ∉ [ax] ++ C.fz
      simp only [List.cons_append, List.nil_append, List.mem_cons, not_or]
      refine ⟨?_, h3⟩
      rintro rfl
      exact hi.2 (R.inj i j a h1 ha)
    · have ha' : a ∈ [ax] ++ C.fz := ha'
      simp only [List.cons_append, List.nil_append, List.mem_cons] at ha'
      rcases ha' with rfl | ha'
      · obtain ⟨l, hl⟩ := hl j rfl
        obtain ⟨a', its, o, h1, h2, h3⟩ := R.obj j l hl
        rw [ha] at h1
        cases h1
        exact ⟨o, h2.1, its, h2.2⟩
      · exact R.fzin a ha'
  · have e : frozen v σ.own = σ.own := by cases v <;> first | rfl | (exact absurd rfl (hn _))
    rw [e]
    exact ⟨R.loc, R.len, R.obj, R.own, R.inj, R.fzin, R.cells⟩
theorem RelM.thaw {v : AV} {fs : List Addr} {σ' : St} {m' : Str → Option Value} {ad' : List Addr} {news' : Led} (R : RelM { C with fz := fs ++ C.fz } σ' m' ad' news') (hf : fsOf v ad fs) (R₀ : RelM C σ m ad news) (l : Le (fs ++ C.fz) ad news ad' news') :
    RelM C { σ' with own := thawed v σ.own σ'.own } m' ad' news' := by
  have own' : ∀ i ∈ σ'.own, ∃ (a : Addr) (o : Obj), ad'[i]? = some a ∧ ((a, o) ∈ news' ∧ (∃ its, IsLx o its)) ∧ a ∉ C.fz := fun i hi => by
    obtain ⟨a, o, h1, h2, h3⟩ := R.own i hi
    exact ⟨a, o, h1, h2, fun h => h3 (List.mem_append_right _ h)⟩
  refine ⟨R.loc, R.len, R.obj, fun i hi => ?_, R.inj, fun a ha => R.fzin a (List.mem_append_right _ ha), R.cells⟩
  rcases hf with ⟨j, ax, rfl, ha, rfl⟩ | ⟨hn, rfl⟩
  · simp only [thawed] at hi
    split at hi
    · rename_i hc
      rcases List.mem_cons.mp hi with rfl | hi
      · obtain ⟨a, o, h1, h2, h3⟩ := R₀.own i (List.contains_iff_mem.mp hc)
        rw [ha] at h1
        cases h1
        exact ⟨ax, o, l.pre _ _ ha, ⟨l.keep _ _ h2.1 (.inl (List.mem_append_left _ (.head _))), h2.2⟩, h3⟩
      · exact own' i hi
    · exact own' i hi
  · have e : thawed v σ.own σ'.own = σ'.own := by cases v <;> first | rfl | (exact absurd rfl (hn _))
    rw [e] at hi
    exact own' i hi
end
end Mine
namespace Mine
open PySem PySem.W PySem.Calls PyProof.Rows PyProof.V PySem.Spec

theorem clos_go (env : Env) : ∀ (names : List (Str × NameKind)) (cs : List (Str × Addr)), (∀ y ∈ names, y.2 = .free → ∃ c, env.cells.lookup y.1 = some c) →
    ∃ cl, (forIn names cs fun (x : Str × NameKind) cs => (match x with | (name, kind) => if (kind == .free) = true then (do let a ← cellOf env name; pure (ForInStep.yield ((name, a) :: cs))) else pure (ForInStep.yield cs)) : Sem (List (Str × Addr))) = pure cl ∧
      (∀ x c, cl.lookup x = some c → cs.lookup x = some c ∨ env.cells.lookup x = some c) ∧ (∀ y ∈ names, y.2 = .free → ∃ c, cl.lookup y.1 = some c) ∧ (∀ x, (∃ c, cs.lookup x = some c) → ∃ c, cl.lookup x = some c)
  | [], cs, _ => ⟨cs, rfl, fun _ _ h => .inl h, fun y hy => (nomatch hy), fun _ h => h⟩
  | (n, k) :: r, cs, h => by
    by_cases hk : k = .free
    · subst hk
      obtain ⟨c, hc⟩ := h (n, .free) (.head _) rfl
      obtain ⟨cl, e1, e2, e3, e4⟩ := clos_go env r ((n, c) :: cs) fun y hy => h y (.tail _ hy)
      refine ⟨cl, ?_, fun x d hd => ?_, fun y hy hf => ?_, fun x hx => e4 x ?_⟩
      · rw [List.forIn_cons, ← e1]
        have : cellOf env n = pure c := by unfold cellOf; rw [hc]
        simp only [this]
        rfl
      · rcases e2 x d hd with h' | h'
        · simp only [List.lookup_cons] at h'
          split at h'
          · rename_i hx
            cases h'
            rw [eq_of_beq hx]
            exact .inr hc
          · exact .inl h'
        · exact .inr h'
      · rcases List.mem_cons.mp hy with rfl | hy
        · exact e4 n ⟨c, by simp [List.lookup_cons]⟩
        · exact e3 y hy hf
      · obtain ⟨d, hd⟩ := hx
        simp only [List.lookup_cons]
        split
        · exact ⟨c, rfl⟩
        · exact ⟨d, hd⟩
    · obtain ⟨cl, e1, e2, e3, e4⟩ := clos_go env r cs fun y hy => h y (.tail _ hy)
      refine ⟨cl, ?_, e2, fun y hy hf => ?_, e4⟩
      · rw [List.forIn_cons, ← e1]
        have : (k == NameKind.free) = false := by simpa using hk
        simp only [this]
        rfl
      · rcases List.mem_cons.mp hy with rfl | hy
        · exact absurd hf hk
        · exact e3 y hy hf
theorem clos (env : Env) (sc : Scope) (h : ∀ y ∈ sc.names, y.2 = .free → ∃ c, env.cells.lookup y.1 = some c) :
    ∃ cl, closureFor sc env = pure cl ∧ (∀ x c, cl.lookup x = some c → env.cells.lookup x = some c) ∧ (∀ y ∈ sc.names, y.2 = .free → ∃ c, cl.lookup y.1 = some c) := by
  obtain ⟨cl, e1, e2, e3, _⟩ := clos_go env sc.names [] h
  refine ⟨cl, ?_, fun x c hc => (e2 x c hc).elim (fun h => by cases h) id, e3⟩
  simp only [closureFor]
  exact congrArg (fun t : Sem (List (Str × Addr)) => t >>= fun s => pure s) e1

theorem lookup_relabel {env : Env} (hk : env.scope.kind = .function) : ∀ {names : List (Str × NameKind)} {x : Str} {k : NameKind}, names.lookup x = some k →
    (names.map fun (n, k) => if (k == NameKind.free && env.scope.kind == .function && env.kindOf n == some .cell) then (n, NameKind.cell) else (n, k)).lookup x =
      some (if (k == NameKind.free && env.kindOf x == some .cell) = true then .cell else k)
  | [], _, _, h => by simp at h
  | (n, k') :: r, x, k, h => by
    have ih := @lookup_relabel env hk r x k
    show List.lookup x ((if (k' == NameKind.free && env.scope.kind == .function && env.kindOf n == some .cell) = true then (n, NameKind.cell) else (n, k')) :: _) = _
    cases hx : x == n with
    | true =>
      simp only [List.lookup_cons, hx] at h
      cases h
      have := eq_of_beq hx
      subst this
      have e : (k' == NameKind.free && env.scope.kind == .function && env.kindOf x == some .cell) = (k' == NameKind.free && env.kindOf x == some .cell) := by rw [hk]; simp
      rw [e]
      by_cases hc : (k' == NameKind.free && env.kindOf x == some .cell) = true
      · rw [if_pos hc, if_pos hc]; simp [List.lookup_cons]
      · rw [if_neg hc, if_neg hc]; simp [List.lookup_cons]
    | false =>
      simp only [List.lookup_cons, hx] at h
      by_cases hc : (k' == NameKind.free && env.scope.kind == .function && env.kindOf n == some .cell) = true
      · rw [if_pos hc]; simp only [List.lookup_cons, hx]; exact ih h
      · rw [if_neg hc]; simp only [List.lookup_cons, hx]; exact ih h

noncomputable def childCx (C : Cx) (h : Heap) (xs : List Str) (caps gl : List Nat) (sc : Scope) (cl : List (Str × Addr)) (L D : Addr) : Cx :=
  { C with env := compEnvC sc cl L C.env, base := h, K := childKeys C.K xs caps gl, gval := childG C.gval gl, fns := noFns, fz := [D], ownCells := false }

structure ScopeOk (K : Keys) (xs : List Str) (caps gl : List Nat) (sc : Scope) : Prop where
  kind : sc.kind = .function
  nocell : ∀ y ∈ sc.names, y.2 ≠ .cell
  names : ∀ y ∈ sc.names, y.2 = .local → sc.names.lookup y.1 = some .local
  xl : ∀ x ∈ xs, sc.names.lookup x = some .local ∧ (x == ("__debug__" : Str)) = false
  cp : ∀ i ∈ caps, (i < K.names.length ∧ K.names.getD i "" ∈ K.cells) ∧ sc.names.lookup (K.names.getD i "") = some .free ∧ ((K.names.getD i "") == ("__debug__" : Str)) = false
  gb : ∀ i ∈ gl, i < K.globs.length ∧ sc.names.lookup (K.globs.getD i "") = some .globalImplicit
  nodup : (childKeys K xs caps gl).names.Nodup
  free : ∀ y ∈ sc.names, y.2 = .free → ∃ i ∈ caps, K.names.getD i "" = y.1
theorem scope_ok {K : Keys} {xs : List Str} {caps gl : List Nat} {sc : Scope} (h : scopeOk K xs caps gl sc = true) : ScopeOk K xs caps gl sc := by
  simp only [scopeOk, Bool.and_eq_true, List.all_eq_true, beq_iff_eq, bne_iff_ne, ne_eq, Bool.or_eq_true, decide_eq_true_eq, List.contains_iff_mem] at h
  obtain ⟨⟨h1, h2, h3⟩, h4, h5, h6, h7, h8⟩ := h
  refine ⟨h1, fun y hy => by simpa using h2 y hy, fun y hy e => ?_, fun x hx => ?_, fun i hi => ?_, fun i hi => h6 i hi, h7, fun y hy e => ?_⟩
  · rcases h3 y hy with h | h
    · exact absurd e (by simpa using h)
    · exact h
  · have := h4 x hx
    exact ⟨this.1, by simpa using this.2⟩
  · have := h5 i hi
    exact ⟨this.1, this.2.1, by simpa using this.2.2⟩
  · rcases h8 y hy with h | h
    · exact absurd e (by simpa using h)
    · obtain ⟨i, hi, e⟩ := List.mem_map.mp h
      exact ⟨i, hi, e⟩

theorem getD_get {l : List Str} {i : Nat} (h : i < l.length) : l[i]? = some (l.getD i "") := by simp [h]
theorem nodup_append_not {α : Type} {a b : List α} {x : α} (h : (a ++ b).Nodup) (hx : x ∈ a) : x ∉ b := fun hb => by
  have := List.nodup_append.mp h
  exact this.2.2 x hx x hb rfl

section
variable {C : Cx} {σ : St} {h : Heap} {m : Str → Option Value} {ad : List Addr} {news : Led} {xs : List Str} {caps gl : List Nat} {sc : Scope} {cl : List (Str × Addr)} {L D : Addr}

theorem child_ok (ok : CxOK C) (R : Rel C σ h m ad news) (S : ScopeOk C.K xs caps gl sc) (hc1 : ∀ x c, cl.lookup x = some c → C.env.cells.lookup x = some c) (hc2 : ∀ y ∈ sc.names, y.2 = .free → ∃ c, cl.lookup y.1 = some c) :
    CxOK (childCx C h xs caps gl sc cl L D) where
  hh := ok.hh
  htop := fun b o e => R.F.keep b o (ok.htop b o e)
  nb := noneKeeps ok.nb R.F.keep
  units := ok.units
  kind := S.kind
  nodup := S.nodup
  locs := fun x hx => by
    have hx : x ∈ xs ++ caps.map (fun i => C.K.names.getD i "") := hx
    rcases List.mem_append.mp hx with h1 | h1
    · have := S.xl x h1
      refine ⟨this.2, fun _ => ?_, fun h2 => absurd h2 (nodup_append_not S.nodup h1)⟩
      have e := lookup_relabel (env := C.env) ok.kind this.1
      exact e.trans (by simp)
    · obtain ⟨i, hi, rfl⟩ := List.mem_map.mp h1
      have := S.cp i hi
      refine ⟨this.2.2, fun h2 => absurd h1 h2, fun _ => ?_⟩
      have e := lookup_relabel (env := C.env) ok.kind this.2.1
      have hk := (ok.locs (C.K.names.getD i "") (List.mem_of_getElem? (getD_get this.1.1))).2.2 this.1.2
      refine e.trans ?_
      rw [hk]
      rfl
  cellinj := fun x hx y hy c h1 h2 => by
    have key : ∀ x ∈ (childKeys C.K xs caps gl).cells, x ∈ C.K.cells := fun x hx => by
      obtain ⟨i, hi, rfl⟩ := List.mem_map.mp hx
      exact (S.cp i hi).1.2
    exact ok.cellinj x (key x hx) y (key y hy) c (hc1 x c h1) (hc1 y c h2)
  cellat := fun x hx => by
    obtain ⟨i, hi, rfl⟩ := List.mem_map.mp hx
    have := (S.cp i hi).2.1
    exact hc2 _ (mem_of_lookup this) rfl
  g := ok.g.keeps R.F.keep
  b := ok.b.keeps R.F.keep
  eg := ok.eg
  eb := ok.eb
  globs := fun j x v hj hv => by
    have hj : (gl.map (fun i => C.K.globs.getD i ""))[j]? = some x := hj
    have hv : (gl[j]?).bind C.gval = some v := hv
    rw [List.getElem?_map] at hj
    cases hg : gl[j]? with
    | none => rw [hg] at hv; cases hv
    | some i =>
      rw [hg] at hj hv
      simp only [Option.map_some, Option.some.injEq] at hj
      have hS := S.gb i (List.mem_of_getElem? hg)
      have := ok.globs i x v (by rw [getD_get hS.1, hj]) hv
      refine ⟨⟨this.1.1, fun _ => ?_⟩, this.2⟩
      rw [← hj]
      have e := lookup_relabel (env := C.env) ok.kind hS.2
      exact e.trans (by simp)
  call := fun fz k args cargs σ Q s m ad news _ _ _ h => h.elim

noncomputable def capLoc (ℓ : Nat → Option AV) (k : Nat) (caps : List Nat) : Nat → Option AV := fun i => if i < k then none else (caps[i - k]?).bind ℓ

theorem child_rel (ok : CxOK C) (R : Rel C σ h m ad news) (S : ScopeOk C.K xs caps gl sc) (hc1 : ∀ x c, cl.lookup x = some c → C.env.cells.lookup x = some c) (hc2 : ∀ y ∈ sc.names, y.2 = .free → ∃ c, cl.lookup y.1 = some c)
    {σ' : St} {m' m₂ : Str → Option Value} {ad' : List Addr} {news' news₂ : Led} (pre : ∀ (i : Nat) (a : Addr), ad[i]? = some a → ad'[i]? = some a)
    (M : RelM (childCx C h xs caps gl sc cl L D) σ' m' ad' news') (k : ∀ a o, (a, o) ∈ news' → good o → (a, o) ∈ news₂) :
    RelM (childCx C h xs caps gl sc cl L D) ⟨capLoc σ.loc xs.length caps, σ'.objs, []⟩ m₂ ad' news₂ := by
  have hl : ∀ o its, IsL o its → good o := fun o its h => .inr (.inl h.1)
  have hk : ∀ a o, Held h news' a o → good o → Held h news₂ a o := fun a o x g => x.elim (fun y => .inl (k a o y g)) .inr
  have lt : LeT ad' news' ad' news₂ := ⟨fun _ _ h => h, fun a o hm hc => k a o hm (hc.elim .inl fun h => .inr (.inr (.inl h)))⟩
  refine ⟨fun n v hv => ?_, M.len, fun i l hl' => ?_, fun i hi => (nomatch hi), M.inj, fun a ha => ?_, fun hc => (nomatch hc)⟩
  · simp only [capLoc] at hv
    split at hv
    · cases hv
    · rename_i hn
      cases hi : caps[n - xs.length]? with
      | none => rw [hi] at hv; cases hv
      | some i =>
        rw [hi] at hv
        have hv : σ.loc i = some v := hv
        obtain ⟨x, cv, e1, e2, e3⟩ := R.M.loc i v hv
        have hS := S.cp i (List.mem_of_getElem? hi)
        have hx : x = C.K.names.getD i "" := by
          have := getD_get hS.1.1
          rw [e1] at this
          exact Option.some.inj this
        have hmem : x ∈ caps.map (fun i => C.K.names.getD i "") := List.mem_map.mpr ⟨i, List.mem_of_getElem? hi, hx.symm⟩
        refine ⟨x, cv, ?_, ?_, (down_RV R (led := []) e3).move pre fun a o _ hd => hd.elim (fun x => absurd x (List.not_mem_nil)) .inr⟩
        · show (xs ++ caps.map (fun i => C.K.names.getD i ""))[n]? = some x
          rw [List.getElem?_append_right (by omega), List.getElem?_map, hi, hx]
          rfl
        · unfold VarAt at e2 ⊢
          have hxc : x ∈ C.K.cells := hx ▸ hS.1.2
          rw [if_pos hxc] at e2
          rw [if_pos (show x ∈ (childCx C h xs caps gl sc cl L D).K.cells from hmem)]
          obtain ⟨c, o, f1, f2, f3⟩ := e2
          obtain ⟨c', hc'⟩ := hc2 (x, .free) (by rw [hx]; exact mem_of_lookup hS.2.1) rfl
          have := hc1 x c' hc'
          rw [f1] at this
          cases this
          exact ⟨c, o, hc', .inr (f2.get R), f3⟩
  · obtain ⟨a, its, o, e1, e2, e3⟩ := M.obj i l hl'
    exact ⟨a, its, o, e1, ⟨hk _ _ e2.1 (hl _ _ e2.2), e2.2⟩, e3.leT lt⟩
  · obtain ⟨o, e1, its, e2⟩ := M.fzin a ha
    exact ⟨o, hk _ _ e1 (hl _ _ e2), its, e2⟩
end
end Mine
namespace Mine
open PySem PySem.W PySem.Calls PyProof.Rows PyProof.V PySem.Spec

theorem loop_rule {prog : Program} {w : World} {A : Around} {R : Result → Shared → Prop} {s : Shared} {elt target iter : Expr} {ifs : List Expr} {scope : Scope} {pos : Pos} {it acc : Value} {env : Env} (I : Nat → Shared → Prop)
    (turn : ∀ n s, I n s → wpAny (model prog w) A (pyNext it) (fun r s₁ => match r with
      | none => R (.ok .next) s₁
      | some v => wpAny (model prog w) A (letOwnedTupleGo target it v) (fun _ s₁' => wpAny (model prog w) A (assign target env v) (fun _ s₂ =>
          wpAny (model prog w) A (forIn ifs true fun c r => if r = true then do let ok ← isTrue c env (eval c env); pure (ForInStep.yield ok) else pure (ForInStep.yield r)) (fun ok s₃ =>
            if ok = true then wpAny (model prog w) A (eval elt env) (fun x s₄ =>
              wpAny (model prog w) A (call (.builtin "list.append") [acc, x]) (fun _ s₅ => ∃ m, m < n ∧ I m s₅) NoE s₄) NoE s₃
            else ∃ m, m < n ∧ I m s₃) NoE s₂) NoE s₁') NoE s₁) NoE s)
    (n : Nat) (h : I n s) : codeAny (model prog w) A (.compLoop (.ListComp elt [⟨target, iter, ifs, 0⟩] scope pos) 0 it acc env) R s := by
  have no : ∀ {E : Value → Shared → Prop} (a : Value) (b : Shared), NoE a b → E a b := fun _ _ x => x.elim
  refine codeAny_loop rfl I (fun n s hI => ?_) n h
  show wpAny _ A ((compTurn (.ListComp elt [⟨target, iter, ifs, 0⟩] scope pos) 0 it acc env).onRaise (fun x => do noteFrame x env; theTreesLotGoes x)) _ _ s
  refine wpAny_noted ?_
  rw [compTurn_list]
  refine wpAny_bind (wpAny_standAt (wpAny_bind (wpAny_mono (turn n s hI) (fun r s₁ h₁ => ?_) no)))
  cases r with
  | none => exact wpAny_pure h₁
  | some v =>
    refine wpAny_bind (wpAny_mono h₁ (fun _ s₁' h₁' => ?_) no)
    refine wpAny_bind (wpAny_mono h₁' (fun _ s₂ h₂ => wpAny_bind (wpAny_mono h₂ (fun ok s₃ h₃ => ?_) no)) no)
    cases ok with
    | false => exact wpAny_pure ⟨rfl, h₃⟩
    | true =>
      exact wpAny_bind (wpAny_bind (wpAny_mono h₃ (fun x s₄ h₄ => wpAny_bind (wpAny_mono h₄ (fun _ s₅ h₅ => wpAny_pure (wpAny_pure ⟨rfl, h₅⟩)) no)) no))

noncomputable def SoundTs (C : Cx) (p : PEs) (es : List Expr) : Prop := ∀ (σ : St) (Q : Bool → St → Prop) (s : Shared) (m : Str → Option Value) (ad : List Addr) (news : Led),
  0 < s.toks → wpTs C.gval C.fns p σ Q → Rel C σ s.heap m ad news → Wp C (forIn es true fun c r => if r = true then do let ok ← isTrue c C.env (eval c C.env); pure (ForInStep.yield ok) else pure (ForInStep.yield r)) (PostB C Q s ad news) s

theorem sTsNil {C : Cx} : SoundTs C .nil [] := by
  intro σ Q s m ad news T q R
  exact wpAny_tests_nil ⟨σ, m, ad, news, q, R, Le.refl, Rest.refl⟩
theorem sTsOne {C : Cx} {p : PE} {e : Expr} (h : SoundT C p e) : SoundTs C (.cons p .nil) [e] := by
  intro σ Q s m ad news T q R
  refine wpAny_tests_one (wpAny_mono (h σ _ s m ad news T q (fun v σ' h => by obtain ⟨b, hb, _⟩ := truthW_iff.mp h; exact ⟨b, hb⟩) R) (fun b s₁ hp => ?_) fun _ _ x => x)
  obtain ⟨v, σ', m', ad', news', t, q₁, R', l, r⟩ := hp
  obtain ⟨b', hb, q₁⟩ := truthW_iff.mp q₁
  rw [t] at hb
  cases hb
  cases b
  · exact ⟨σ', m', ad', news', q₁.2 rfl, R', l, r⟩
  · exact ⟨σ', m', ad', news', q₁.1 rfl, R', l, r⟩

theorem setAll_eq : ∀ (ns : List Nat) (vs : List AV) (σ : St), (setAll σ ns vs).objs = σ.objs ∧ (setAll σ ns vs).own = σ.own
  | [], _, _ => ⟨rfl, rfl⟩
  | _ :: _, [], _ => ⟨rfl, rfl⟩
  | n :: ns, v :: vs, σ => setAll_eq ns vs (σ.set n v)
theorem setAll_loc : ∀ (k a : Nat) (vs : List AV) (σ : St), vs.length = k → ∀ i, (setAll σ (List.range' a k) vs).loc i = if a ≤ i ∧ i < a + k then vs[i - a]? else σ.loc i
  | 0, a, [], σ, _, i => by simp [setAll, List.range']; intro h1 h2; (first | lia | omega)
  | k + 1, a, v :: vs, σ, hl, i => by
    rw [List.range'_succ]
    show (setAll (σ.set a v) (List.range' (a + 1) k) vs).loc i = _
    rw [setAll_loc k (a + 1) vs (σ.set a v) (by simpa using hl) i]
    by_cases h1 : i = a
    · subst h1
      rw [if_neg (by (first | lia | omega)), if_pos (by (first | lia | omega))]
      simp [St.set, upd]
    · by_cases h2 : a + 1 ≤ i ∧ i < a + 1 + k
      · rw [if_pos h2, if_pos (by (first | lia | omega))]
        have : i - a = (i - (a + 1)) + 1 := by (first | lia | omega)
        rw [this, List.getElem?_cons_succ]
      · rw [if_neg h2, if_neg (by (first | lia | omega))]
        simp [St.set, upd, h1]
  | 0, _, _ :: _, _, h, _ => by cases h
  | _ + 1, _, [], _, h, _ => by cases h
theorem setAll_child (ℓ : Nat → Option AV) (caps : List Nat) (objs : List (List AV)) (k : Nat) (vs : List AV) (h : vs.length = k) :
    setAll ⟨capLoc ℓ k caps, objs, []⟩ (List.range' 0 k) vs = ⟨childLoc ℓ vs caps, objs, []⟩ := by
  have e := setAll_eq (List.range' 0 k) vs ⟨capLoc ℓ k caps, objs, []⟩
  have e2 := setAll_loc k 0 vs ⟨capLoc ℓ k caps, objs, []⟩ h
  generalize setAll ⟨capLoc ℓ k caps, objs, []⟩ (List.range' 0 k) vs = σ at *
  obtain ⟨a, b, c⟩ := σ
  simp only at e e2
  obtain ⟨rfl, rfl⟩ := e
  congr 1
  funext i
  rw [e2 i]
  subst h
  simp only [childLoc, capLoc]
  by_cases hi : i < vs.length
  · rw [if_pos (by omega), if_pos hi]; rfl
  · rw [if_neg (by omega), if_neg hi, if_neg hi]

theorem nameOf_inv {e : Expr} {x : Str} (h : nameOf e = some x) : ∃ p, e = .Name x p := by
  cases e <;> first | (cases h; done) | skip
  cases h
  exact ⟨_, rfl⟩
theorem tupleOf_inv {e : Expr} {es : List Expr} (h : tupleOf e = some es) : ∃ k p, e = .Tuple es k p := by
  cases e <;> first | (cases h; done) | skip
  cases h
  exact ⟨_, _, rfl⟩
theorem mapM_cons {e : Expr} {es : List Expr} {xs : List Str} (h : (e :: es).mapM nameOf = some xs) : ∃ x ys, nameOf e = some x ∧ es.mapM nameOf = some ys ∧ xs = x :: ys := by
  rw [List.mapM_cons] at h
  cases he : nameOf e with
  | none => rw [he] at h; cases h
  | some x =>
    rw [he] at h
    cases hr : es.mapM nameOf with
    | none => rw [hr] at h; cases h
    | some ys => rw [hr] at h; cases h; exact ⟨x, ys, rfl, rfl, rfl⟩
theorem names_map : ∀ (es : List Expr) (xs : List Str), es.mapM nameOf = some xs → xs.length = es.length ∧ ∀ (i : Nat) (e : Expr), es[i]? = some e → ∃ x p, e = .Name x p ∧ xs[i]? = some x
  | [], xs, h => by
    cases h
    exact ⟨rfl, fun i e h => nomatch h⟩
  | e :: es, xs, h => by
    obtain ⟨x, ys, he, hr, rfl⟩ := mapM_cons h
    obtain ⟨p, rfl⟩ := nameOf_inv he
    obtain ⟨e1, e2⟩ := names_map es ys hr
    refine ⟨congrArg Nat.succ e1, fun i e' h => ?_⟩
    cases i with
    | zero => cases h; exact ⟨_, _, rfl, rfl⟩
    | succ i => exact e2 i e' h
theorem zip_all (K : Keys) (ys : List Str) : ∀ (es : List Expr) (xs : List Str) (a : Nat), es.mapM nameOf = some xs → (∀ (i : Nat) (x : Str), xs[i]? = some x → K.names[a + i]? = some x) →
    (((List.range' a es.length).zip es).all fun p => match p.2 with | .Name x _ => K.names[p.1]? == some x | _ => false) = true
  | [], _, _, _, _ => rfl
  | e :: es, xs, a, h, hk => by
    obtain ⟨x, ys', he, hr, rfl⟩ := mapM_cons h
    obtain ⟨p, rfl⟩ := nameOf_inv he
    have := zip_all K ys es ys' (a + 1) hr fun i y hy => by
      rw [Nat.add_assoc, Nat.add_comm 1]
      exact hk (i + 1) y hy
    have h0 := hk 0 x rfl
    simp only [List.length_cons, List.range'_succ, List.zip_cons_cons, List.all_cons, Bool.and_eq_true, this, and_true]
    exact beq_iff_eq.mpr h0
noncomputable def tgtOf : Option Nat → Tgt
  | none => .name 0
  | some k => .tup (List.range' 0 k)
theorem tgt_inv {o : Option Nat} {tgt : Expr} {xs : List Str} (hx : tgtNames o tgt = some xs) : (o = none ∧ ∃ x p, tgt = .Name x p ∧ xs = [x]) ∨ ∃ es k p, o = some es.length ∧ tgt = .Tuple es k p ∧ es.mapM nameOf = some xs := by
  cases o with
  | none =>
    obtain ⟨x, hn, rfl⟩ := Option.map_eq_some_iff.mp hx
    obtain ⟨p, rfl⟩ := nameOf_inv hn
    exact .inl ⟨rfl, _, _, rfl, rfl⟩
  | some n =>
    obtain ⟨es, ht, hy⟩ := Option.bind_eq_some_iff.mp hx
    clear hx
    obtain ⟨k, p, rfl⟩ := tupleOf_inv ht
    split at hy
    · rename_i hl
      exact .inr ⟨es, k, p, by rw [eq_of_beq hl], rfl, hy⟩
    · cases hy
theorem tgt_match {o : Option Nat} {tgt : Expr} {xs : List Str} (hx : tgtNames o tgt = some xs) (K : Keys) (hk : ∀ (i : Nat) (x : Str), xs[i]? = some x → K.names[i]? = some x) : mT K (tgtOf o) tgt = true := by
  rcases tgt_inv hx with ⟨rfl, x, p, rfl, rfl⟩ | ⟨es, k, p, rfl, rfl, h⟩
  · exact beq_iff_eq.mpr (hk 0 _ rfl)
  · simp only [mT, tgtOf, List.length_range', beq_self_eq_true, Bool.true_and]
    exact zip_all K xs es xs 0 h fun i x h => by rw [Nat.zero_add]; exact hk i x h
theorem tgt_ids {o : Option Nat} {tgt : Expr} {xs : List Str} (hx : tgtNames o tgt = some xs) : ∀ n ∈ (tgtOf o).ids, n < xs.length := by
  rcases tgt_inv hx with ⟨rfl, x, p, rfl, rfl⟩ | ⟨es, k, p, rfl, rfl, h⟩
  · intro n hn
    rw [List.mem_singleton.mp hn]
    exact Nat.one_pos
  · intro n hn
    obtain ⟨i, hi, rfl⟩ := List.mem_range'.mp (show n ∈ List.range' 0 es.length from hn)
    rw [(names_map es xs h).1]
    omega
theorem bind_child {o : Option Nat} {tgt : Expr} {xs : List Str} (hx : tgtNames o tgt = some xs) {u : AV} {objs : List (List AV)} {ℓ : Nat → Option AV} {caps : List Nat} {K : St → Prop}
    (q : partsW o u objs fun us => K ⟨childLoc ℓ us caps, objs, []⟩) : bindW (tgtOf o) u ⟨capLoc ℓ xs.length caps, objs, []⟩ K := by
  rcases tgt_inv hx with ⟨rfl, x, p, rfl, rfl⟩ | ⟨es, k, p, rfl, rfl, h⟩
  · have e := setAll_child ℓ caps objs 1 [u] rfl
    show K (setAll _ (List.range' 0 1) [u])
    exact e ▸ q
  · have hlen := (names_map es xs h).1
    show partsW (some (List.range' 0 es.length).length) u objs fun vs => K (setAll _ (List.range' 0 es.length) vs)
    rw [List.length_range', hlen]
    generalize es.length = k at *
    unfold partsW at q ⊢
    split at q
    · rename_i h; cases h
    · rename_i n h
      cases h
      simp only
      split at q
      · refine ⟨q.1, ?_⟩
        rw [setAll_child ℓ caps objs k _ q.1]
        exact q.2
      · obtain ⟨l, h1, h2, q⟩ := q
        refine ⟨l, h1, h2, ?_⟩
        rw [setAll_child ℓ caps objs k _ h2]
        exact q
      · exact q
end Mine
namespace Mine
open PySem PySem.W PySem.Calls PyProof.Rows PyProof.V PySem.Spec

noncomputable def compTurnW (g : Nat → Option AV) (ℓ : Nat → Option AV) (elt : PE) (o : Option Nat) (caps gl : List Nat) (ifs : PEs) (u : AV) (objs : List (List AV)) (K : Option AV → List (List AV) → Prop) : Prop :=
  partsW o u objs fun us => wpTs (childG g gl) noFns ifs ⟨childLoc ℓ us caps, objs, []⟩ fun ok σ₂ =>
        (ok = true → wpE (childG g gl) noFns elt σ₂ fun x σ₃ => K (some x) σ₃.objs) ∧ (ok = false → K none σ₂.objs)

section
variable {C : Cx} {σ : St} {s : Shared} {m : Str → Option Value} {ad : List Addr} {news : Led} {xs : List Str} {caps gl : List Nat} {sc : Scope} {cl : List (Str × Addr)}
  {elt : PE} {o : Option Nat} {ifs : PEs} {elt' tgt iter' : Expr} {ifs' : List Expr} {pos : Pos}

structure CompDone (C : Cx) (Cc : Cx) (s : Shared) (ad : List Addr) (n : Nat) (D L : Addr) (objs : List (List AV)) (h : Heap) (m' : Str → Option Value) (ad' : List Addr) (news' : Led) : Prop where
  R : Rel Cc ⟨fun _ => none, objs, []⟩ h m' ad' news'
  pre : ∀ (i : Nat) (a : Addr), ad[i]? = some a → ad'[i]? = some a
  at_ : ad'[n]? = some D
  held : ∃ o its, (D, o) ∈ news' ∧ IsLx o its

noncomputable def LoopInv (Cc : Cx) (ℓ : Nat → Option AV) (I : Addr) (St : Nat → Heap → Prop) (ad : List Addr) (n : Nat) (turn : AV → List (List AV) → (Option AV → List (List AV) → Prop) → Prop) (items : List AV) (Qf : List (List AV) → Prop) (s : Shared) (k : Nat) (s' : Shared) : Prop :=
  ∃ i h tk m' ad' news' objs, (k = items.length - i ∧ i ≤ items.length) ∧ (s' = { s with heap := h, toks := tk } ∧ 0 < tk) ∧ Rel Cc ⟨ℓ, objs, []⟩ h m' ad' news' ∧
        (∀ p ∈ news', p.1 ≠ I) ∧ St i h ∧ (∀ (i : Nat) (a : Addr), ad[i]? = some a → ad'[i]? = some a) ∧ ad'[n]? = some (I + 1) ∧ (∃ o' its, (I + 1, o') ∈ news' ∧ IsLx o' its ∧ its.length ≤ i) ∧
        compL turn n (items.drop i) objs Qf

theorem comp_back (ok : CxOK C) (R : Rel C σ s.heap m ad news) (S : ScopeOk C.K xs caps gl sc) (hc1 : ∀ x c, cl.lookup x = some c → C.env.cells.lookup x = some c) (hc2 : ∀ y ∈ sc.names, y.2 = .free → ∃ c, cl.lookup y.1 = some c)
    {I : Addr} {items : List AV} {fp fs : List Addr} {P : Nat → Value → Prop} {St : Nat → Heap → Prop} {Qf : List (List AV) → Prop} {turn : AV → List (List AV) → (Option AV → List (List AV) → Prop) → Prop} {n i : Nat} {h' : Heap} {oI : Obj} {ad' : List Addr}
    (it : Iter C items ad news I fp fs P St) (hlt : i < items.length) (hst' : St (i + 1) h') (eI : h'.get? I = some oI) (hngI : ¬ good oI) (keep : ∀ b o', s.heap.get? b = some o' → h'.get? b = some o')
    (pre : ∀ (i : Nat) (a : Addr), ad[i]? = some a → ad'[i]? = some a) (hat : ad'[n]? = some (I + 1))
    {σx : Mine.St} {hx' : Heap} {tkx : Nat} {mx : Str → Option Value} {adx : List Addr} {newsx : Led} (Rx : Rel (childCx C s.heap xs caps gl sc cl (I + 2) (I + 1)) σx hx' mx adx newsx) (hIx : (I, oI) ∈ newsx) (prex : ∀ (i : Nat) (a : Addr), ad'[i]? = some a → adx[i]? = some a)
    (hD : ∃ o' its, (I + 1, o') ∈ newsx ∧ IsLx o' its ∧ its.length ≤ i + 1) (qx : compL turn n (items.drop (i + 1)) σx.objs Qf) (T : 0 < tkx) :
    ∃ m, m < items.length - i ∧ LoopInv (childCx C s.heap xs caps gl sc cl (I + 2) (I + 1)) (capLoc σ.loc xs.length caps) I St ad n turn items Qf s m { s with heap := hx', toks := tkx } := by
  obtain ⟨oD', its', hmD', hLD', hlD'⟩ := hD
  have hsub := sub_filter Rx.N hIx hngI
  refine ⟨items.length - (i + 1), Nat.sub_lt_sub_left hlt (Nat.lt_succ_self i), i + 1, hx', tkx, mx, adx, newsx.filter fun p => p.1 != I, σx.objs, ⟨rfl, hlt⟩, ⟨rfl, T⟩, ⟨Rx.F, fun p hp => Rx.N p (List.mem_filter.mp hp).1, ?_⟩, ?_, ?_, ?_, ?_, ⟨oD', its', hsub _ _ hmD' (.inr (.inl hLD'.toL.1)), hLD', hlD'⟩, qx⟩
  · exact child_rel ok R S hc1 hc2 (fun i a h => prex i a (pre i a h)) Rx.M hsub
  · intro p hp
    simpa using (List.mem_filter.mp hp).2
  · refine it.W.frame _ _ _ hst' fun b hb o' e => ?_
    rcases it.fpIn b hb with rfl | ⟨o₂, hh, _⟩
    · rw [eI] at e
      cases e
      exact (Rx.N _ hIx).1
    · have e1 := hh.get R
      have e2 : h'.get? b = some o₂ := keep _ _ e1
      rw [e] at e2
      cases e2
      exact Rx.F.keep _ _ e1
  · exact fun i a h => prex i a (pre i a h)
  · exact prex _ _ hat

theorem comp_M0 (R : Rel C σ s.heap m ad news) {I : Addr} (hI : s.heap.objs.size = I) : RelM (childCx C s.heap xs caps gl sc cl (I + 2) (I + 1)) ⟨fun _ => none, σ.objs ++ [[]], []⟩ (fun _ => none) (ad ++ [I + 1]) [(I + 1, lstObj [] 0)] := by
  have hlen : ad.length = σ.objs.length := R.M.len
  have hadlt : ∀ (i : Nat) (a : Addr), ad[i]? = some a → a < I := fun i a h => hI ▸ R.lt h
  refine ⟨fun n v h => (by cases h), (by simp [hlen]), fun i l hl => ?_, fun i hi => (nomatch hi), fun i j a h1 h2 => ?_, fun a ha => ?_, fun hc => (nomatch hc)⟩
  · by_cases hi : i < σ.objs.length
    · simp only [List.getElem?_append_left hi] at hl
      obtain ⟨a, its, o', e1, e2, e3⟩ := R.M.obj i l hl
      exact ⟨a, its, o', snoc_pre i a e1, ⟨.inr (e2.1.get R), e2.2⟩, (down_RVs R (led := [(I + 1, lstObj [] 0)]) e3).le (fz := []) (.all snoc_pre fun _ h => h)⟩
    · have hi2 : i = σ.objs.length := by
        have := (List.getElem?_eq_some_iff.mp hl).1
        simp at this
        (first | lia | omega)
      subst hi2
      simp only [List.getElem?_concat_length, Option.some.injEq] at hl
      subst hl
      exact ⟨I + 1, [], _, by rw [← hlen, List.getElem?_concat_length], ⟨.inl (.head _), rfl, 0, rfl⟩, .nil⟩
  · have key : ∀ i : Nat, (ad ++ [I + 1])[i]? = some a → (i < ad.length ∧ ad[i]? = some a) ∨ (i = ad.length ∧ a = I + 1) := by
      intro i hi
      by_cases h : i < ad.length
      · rw [List.getElem?_append_left h] at hi
        exact .inl ⟨h, hi⟩
      · have hi2 : i = ad.length := by
          have := (List.getElem?_eq_some_iff.mp hi).1
          simp only [List.length_append, List.length_cons, List.length_nil] at this
          (first | lia | omega)
        subst hi2
        simp only [List.getElem?_concat_length, Option.some.injEq] at hi
        exact .inr ⟨rfl, hi.symm⟩
    rcases key i h1 with ⟨_, g1⟩ | ⟨g1, g1'⟩ <;> rcases key j h2 with ⟨_, g2⟩ | ⟨g2, g2'⟩
    · exact R.M.inj i j a g1 g2
    · have h := hadlt _ _ g1; rw [g2'] at h; exact absurd h (Nat.not_lt.mpr (Nat.le_succ I))
    · have h := hadlt _ _ g2; rw [g1'] at h; exact absurd h (Nat.not_lt.mpr (Nat.le_succ I))
    · (first | lia | omega)
  · have : a = I + 1 := List.mem_singleton.mp ha
    subst this
    exact ⟨_, .inl (.head _), [], rfl, 0, rfl⟩

theorem comp_turn (okc : CxOK C) (hfn : C.fns = noFns) (h2 : SoundE C elt elt') (h3 : SoundTs C ifs ifs') {t : Tgt} {u : AV} {v : Value} {h' : Heap} {tk' n i : Nat} {D I : Addr} {oI oD : Obj} {its : List Value} {Nx : List (List AV) → Prop} {Post : Shared → Prop}
    (hm : mT C.K t tgt = true) (hs : mayStore C t.ids) (q : bindW t u σ fun σ' => wpTs C.gval noFns ifs σ' fun ok σ₂ => (ok = true → wpE C.gval noFns elt σ₂ fun x σ₃ => Nx (appendAt σ₃.objs n x)) ∧ (ok = false → Nx σ₂.objs))
    (T : 0 < tk') (R1 : Rel C σ h' m ad news) (rv : RV C.base C.fa ad news u v) (hI : (I, oI) ∈ news) (hngI : ¬ good oI) (hD : (D, oD) ∈ news) (hLD : IsLx oD its) (hlD : its.length ≤ i) (hi : i < sizeLine) (hat : ad[n]? = some D) (hfz : D ∈ C.fz) (hDI : I ≠ D)
    (back : ∀ (σx : Mine.St) (hx' : Heap) (tkx : Nat) (mx : Str → Option Value) (adx : List Addr) (newsx : Led), Rel C σx hx' mx adx newsx → (I, oI) ∈ newsx → (∀ (i : Nat) (a : Addr), ad[i]? = some a → adx[i]? = some a) →
      (∃ o' its, (D, o') ∈ newsx ∧ IsLx o' its ∧ its.length ≤ i + 1) → Nx σx.objs → 0 < tkx → Post { s with heap := hx', toks := tkx }) :
    wpAny (model C.prog C.w) C.A (assign tgt C.env v) (fun _ s₂ =>
          wpAny (model C.prog C.w) C.A (forIn ifs' true fun c r => if r = true then do let ok ← isTrue c C.env (eval c C.env); pure (ForInStep.yield ok) else pure (ForInStep.yield r)) (fun ok s₃ =>
            if ok = true then wpAny (model C.prog C.w) C.A (eval elt' C.env) (fun x s₄ =>
              wpAny (model C.prog C.w) C.A (call (.builtin "list.append") [.ref D, x]) (fun _ s₅ => Post s₅) NoE s₄) NoE s₃
            else Post s₃) NoE s₂) NoE { s with heap := h', toks := tk' } := by
  have no : ∀ {E : Value → Shared → Prop} (a : Value) (b : Shared), NoE a b → E a b := fun _ _ x => x.elim
  rw [← hfn] at q
  refine withT (C := C) T (bind_sound (s := { s with heap := h', toks := tk' }) okc hm hs q R1 rv ?_)
  rintro σ₁ h₁ tk₁ m₁ news₁ q₁ R₁ l₁ T₁
  refine wpAny_mono (wpAny_toks (h3 σ₁ _ { s with heap := h₁, toks := tk₁ } m₁ ad news₁ T₁ q₁ R₁)) (fun okb s₂ hp => ?_) (fun a b x => no a b x.2)
  obtain ⟨ht₂, σ₂, m₂, ad₂, news₂, q₂, R₂, l₂, ⟨h₂, tk₂, rfl⟩⟩ := hp
  have T₂ : 0 < tk₂ := Nat.lt_of_lt_of_le T₁ ht₂
  have hI₂ : (I, oI) ∈ news₂ := l₂.keep _ _ (l₁.keep _ _ hI (.inr (bad_keep hngI))) (.inr (bad_keep hngI))
  have hD₂ : (D, oD) ∈ news₂ := l₂.keep _ _ (l₁.keep _ _ hD (.inl hfz)) (.inl hfz)
  cases okb with
  | false =>
    simp only [Bool.false_eq_true, if_false]
    exact back σ₂ h₂ tk₂ m₂ ad₂ news₂ R₂ hI₂ l₂.pre ⟨oD, its, hD₂, hLD, by (first | lia | omega)⟩ (q₂.2 rfl) T₂
  | true =>
    simp only [if_true]
    refine wpAny_mono (wpAny_toks (h2 σ₂ _ { s with heap := h₂, toks := tk₂ } m₂ ad₂ news₂ T₂ (q₂.1 rfl) R₂)) (fun cx s₃ hp => ?_) (fun a b x => no a b x.2)
    obtain ⟨ht₃, x, σ₃, m₃, ad₃, news₃, q₃, rvx, R₃, l₃, ⟨h₃, tk₃, rfl⟩⟩ := hp
    have hI₃ : (I, oI) ∈ news₃ := l₃.keep _ _ hI₂ (.inr (bad_keep hngI))
    have hD₃ : (D, oD) ∈ news₃ := l₃.keep _ _ hD₂ (.inl hfz)
    have hat₃ : ad₃[n]? = some D := l₃.pre _ _ (l₂.pre _ _ hat)
    have hgD₃ := (R₃.N _ hD₃).1
    have hn₃ : n < σ₃.objs.length := by
      have := (List.getElem?_eq_some_iff.mp hat₃).1
      rw [R₃.M.len] at this
      exact this
    have e₃ : σ₃.objs[n]? = some (σ₃.objs.getD n []) := by
      simp [hn₃]
    obtain ⟨a₃, its₃, o₃, f1, f2, f3⟩ := R₃.M.obj _ _ e₃
    rw [hat₃] at f1
    cases f1
    have f4 := f2.1.get R₃
    rw [hgD₃] at f4
    cases f4
    have hits : its₃ = its := by
      obtain ⟨_, n1, d1⟩ := f2.2
      obtain ⟨_, n2, d2⟩ := hLD.toL
      rw [d1] at d2
      injection d2 with d3
      simpa using d3
    subst hits
    obtain ⟨nD, hnD⟩ := hLD
    refine append_at (D := D) (its := its₃.toArray) (n := nD) (by rw [hgD₃, hnD]) (fun h₄ hs₄ g1 => ?_) (by simp only [List.size_toArray]; (first | lia | omega))
    have hL₄ : IsLx (lstObj (its₃ ++ [cx]) (nD + 1)) (its₃ ++ [cx]) := ⟨_, rfl⟩
    rw [show (its₃.toArray.push cx) = (its₃ ++ [cx]).toArray by simp] at g1
    have R₄ := R₃.update hat₃ ⟨_, _, hD₃, f2.2⟩ hL₄ hs₄ g1 (f3.append (.cons _ _ _ _ rvx .nil))
    refine back _ h₄ tk₃ m₃ ad₃ _ R₄ (.tail _ (List.mem_filter.mpr ⟨hI₃, by simpa using hDI⟩)) (fun i a h => l₃.pre i a (l₂.pre i a h)) ⟨_, _, .head _, hL₄, by simp; (first | lia | omega)⟩ q₃ (Nat.lt_of_lt_of_le T₂ ht₃)

theorem comp_block (ok : CxOK C) (S : ScopeOk C.K xs caps gl sc) (hx : tgtNames o tgt = some xs) (hc1 : ∀ x c, cl.lookup x = some c → C.env.cells.lookup x = some c) (hc2 : ∀ y ∈ sc.names, y.2 = .free → ∃ c, cl.lookup y.1 = some c)
    (h2 : ∀ C', CxOK C' → C'.K = childKeys C.K xs caps gl → SoundE C' elt elt') (h3 : ∀ C', CxOK C' → C'.K = childKeys C.K xs caps gl → SoundTs C' ifs ifs')
    {items : List AV} {io : Obj} {fp fs : List Addr} {P : Nat → Value → Prop} {St : Nat → Heap → Prop} {Qf : List (List AV) → Prop} {RR : Value → Addr → Result → Shared → Prop}
    (T0 : 0 < s.toks) (R : Rel C σ s.heap m ad news) (it : Iter C items ad news s.heap.objs.size fp fs P St) (hst : St 0 (s.heap.push io)) (hfp : ∀ b ∈ fp, b ≤ s.heap.objs.size) (hsz : items.length ≤ sizeLine)
    (q : compL (compTurnW C.gval σ.loc elt o caps gl ifs) σ.objs.length items (σ.objs ++ [[]]) Qf)
    (hRR : ∀ D L h tk m' ad' news' objs, D = s.heap.objs.size + 1 → L = s.heap.objs.size + 2 → CompDone C (childCx C s.heap xs caps gl sc cl L D) s ad σ.objs.length D L objs h m' ad' news' → Qf objs → RR (.ref D) L (.ok .next) { s with heap := h, toks := tk }) :
    Wp C (newList []) (fun acc s₃ => Wp C (newFunctionEnv sc C.env.globals cl [] C.env.qual none .none (some C.env)) (fun cenv s₄ =>
      codeAny (model C.prog C.w) C.A (.compStart (.ListComp elt' [⟨tgt, iter', ifs', 0⟩] sc pos) 0 (.ref s.heap.objs.size) acc { cenv with scope := relabel sc C.env }) (RR acc cenv.locals) s₄) s₃) { s with heap := s.heap.push io } := by
  refine wpAny_newObj_type (wpAny_newFunctionEnv S.nocell (by intro y hy; simp at hy) (fun h₁ hns₁ hsb₁ => ?_) S.kind)
  dsimp only at hns₁ hsb₁ ⊢
  have hD : (s.heap.push io).objs.size = s.heap.objs.size + 1 := Heap.size_push ..
  generalize hH2 : (s.heap.push io).push { cls := .type "list", dict := none, data := .seq ([] : List Value).toArray } = H2 at hns₁ hsb₁ ⊢
  have hL : H2.objs.size = s.heap.objs.size + 2 := by rw [← hH2, Heap.size_push, Heap.size_push]
  rw [hL] at hns₁ hsb₁ ⊢
  rw [hD]
  generalize hI : s.heap.objs.size = I at *
  have n1 : @Ne Nat I (I + 2) := by (first | lia | omega)
  have n2 : @Ne Nat (I + 1) (I + 2) := by (first | lia | omega)
  have hpu : ∀ (o' : Obj), (H2.push o').objs.size = I + 3 := fun o' => by rw [Heap.size_push, hL]
  have old : ∀ b o', s.heap.get? b = some o' → h₁.get? b = some o' := fun b o' e => by
    have hb : b < I := hI ▸ Heap.lt_size e
    exact hsb₁.extBut b o' (Nat.ne_of_lt (Nat.lt_of_lt_of_le hb (Nat.le_add_right I 2))) (Heap.get?_push_of_some _ (hH2 ▸ Heap.get?_push_of_some _ (Heap.get?_push_of_some _ e)))
  have gI : (s.heap.push io).get? I = h₁.get? I := by
    obtain ⟨oI, _, _, e, _⟩ := it.plain 0 _ hst
    rw [e]
    exact (hsb₁.extBut I oI n1 (Heap.get?_push_of_some _ (hH2 ▸ Heap.get?_push_of_some _ e))).symm
  have gD : h₁.get? (I + 1) = some (lstObj [] 0) := by
    refine hsb₁.extBut (I + 1) _ n2 (Heap.get?_push_of_some _ (hH2 ▸ ?_))
    rw [← hD]
    exact Heap.get?_push_size _ rfl
  have fresh : ∀ a, I ≤ a → s.heap.get? a = none := fun a ha => by
    cases e : s.heap.get? a with
    | none => rfl
    | some o' => exact absurd (Heap.lt_size e) (by rw [hI]; exact Nat.not_lt.mpr ha)
  have okc : CxOK (childCx C s.heap xs caps gl sc cl (I + 2) (I + 1)) := child_ok ok R S hc1 hc2
  have hlen : ad.length = σ.objs.length := R.M.len
  have hadlt : ∀ (i : Nat) (a : Addr), ad[i]? = some a → a < I := fun i a h => hI ▸ R.lt h
  have M0 := comp_M0 (xs := xs) (caps := caps) (gl := gl) (sc := sc) (cl := cl) R hI
  have F0 : Fr s.heap (I + 2) h₁ (fun x => ([] : List (Str × Value)).reverse.lookup x) := ⟨hns₁, old, by rw [hI]; (first | lia | omega)⟩
  have N0 : News s.heap (I + 2) h₁ [(I + 1, lstObj [] 0)] := by
    intro p hp
    rw [List.mem_singleton.mp hp]
    exact ⟨gD, n2, fresh _ (Nat.le_succ _)⟩
  have st0 : St 0 h₁ := it.W.frame 0 _ _ hst fun b hb o' e => by
    rcases it.fpIn b hb with rfl | ⟨o₂, h, _⟩
    · rw [← gI]; exact e
    · have e1 := h.get R
      have e2 := Heap.get?_push_of_some io e1
      rw [e] at e2
      cases e2
      exact old _ _ e1
  have no : ∀ {E : Value → Shared → Prop} (a : Value) (b : Shared), NoE a b → E a b := fun _ _ x => x.elim
  have loop : codeAny (model C.prog C.w) C.A (.compLoop (.ListComp elt' [⟨tgt, iter', ifs', 0⟩] sc pos) 0 (.ref I) (.ref (I + 1)) (compEnvC sc cl (I + 2) C.env)) (RR (.ref (I + 1)) (I + 2)) { s with heap := h₁, toks := s.toks + 0 } := by
    refine loop_rule (LoopInv (childCx C s.heap xs caps gl sc cl (I + 2) (I + 1)) (capLoc σ.loc xs.length caps) I St ad σ.objs.length (compTurnW C.gval σ.loc elt o caps gl ifs) items Qf s) ?_ items.length ?_
    · rintro k s' ⟨i, h, tk, m', ad', news', objs, ⟨rfl, hi⟩, ⟨rfl, T⟩, R', hnI, hsti, pre, hat, ⟨oD, its, hmD, hLD, hlD⟩, q'⟩
      by_cases hlast : i = items.length
      · subst hlast
        refine it.W.done _ _ _ hsti fun h' tk' hk => ?_
        obtain ⟨F', N'⟩ := keep_it R'.F R'.N (fresh _ (Nat.le_refl _)) n1 hnI hk
        simp only [List.drop_length, compL] at q'
        refine hRR (I + 1) (I + 2) h' tk' m' ad' news' objs rfl rfl ⟨⟨F', N', ?_⟩, pre, hat, _, _, hmD, hLD⟩ q'
        exact ⟨fun n v h => (by cases h), R'.M.len, R'.M.obj, R'.M.own, R'.M.inj, R'.M.fzin, R'.M.cells⟩
      · have hlt : i < items.length := by (first | lia | omega)
        refine withT (C := C) T (it.W.item i _ _ _ hlt hsti fun v h' tk' hP hst' hk T' => ?_)
        obtain ⟨F', N'⟩ := keep_it R'.F R'.N (fresh _ (Nat.le_refl _)) n1 hnI hk
        have pI := it.plain _ _ hst'
        obtain ⟨oI, eI, hngI⟩ := it_bad pI
        have R1 : Rel (childCx C s.heap xs caps gl sc cl (I + 2) (I + 1)) ⟨capLoc σ.loc xs.length caps, objs, []⟩ h' m' ad' ((I, oI) :: news') :=
          ⟨F', fun p hp => by
            rcases List.mem_cons.mp hp with rfl | hp
            · exact ⟨eI, n1, fresh _ (Nat.le_refl _)⟩
            · exact N' p hp, R'.M.mono fun _ h => .tail _ h⟩
        obtain ⟨u, hu, rvu⟩ := it.item i v hP hlt
        have rvu' : RV s.heap C.fa ad' ((I, oI) :: news') u v := (down_RV R (led := (I, oI) :: news') rvu).le (fz := []) (.all pre fun _ h => h)
        have hdrop : items.drop i = u :: items.drop (i + 1) := by
          have := List.getElem?_eq_some_iff.mp hu
          obtain ⟨h1, h2⟩ := this
          rw [List.drop_eq_getElem_cons h1, h2]
        rw [hdrop] at q'
        simp only [compL] at q'
        refine letOwned pI ?_
        have hkeys : ∀ (i : Nat) (x : Str), xs[i]? = some x → (childKeys C.K xs caps gl).names[i]? = some x := fun i x h => by
          show (xs ++ _)[i]? = some x
          rw [List.getElem?_append_left (List.getElem?_eq_some_iff.mp h).1]
          exact h
        exact comp_turn (s := s) (n := σ.objs.length) (i := i) (D := I + 1) (Nx := fun x => compL (compTurnW C.gval σ.loc elt o caps gl ifs) σ.objs.length (items.drop (i + 1)) x Qf) (Post := fun s₅ => ∃ m, m < items.length - i ∧ LoopInv (childCx C s.heap xs caps gl sc cl (I + 2) (I + 1)) (capLoc σ.loc xs.length caps) I St ad σ.objs.length (compTurnW C.gval σ.loc elt o caps gl ifs) items Qf s m s₅) (t := tgtOf o) (u := u) (σ := ⟨capLoc σ.loc xs.length caps, objs, []⟩) okc rfl (h2 _ okc rfl) (h3 _ okc rfl) (tgt_match hx _ hkeys) (by
          intro n hn x hxn hxc
          have hlt := tgt_ids hx n hn
          exfalso
          have e1 := hkeys n _ (List.getElem?_eq_getElem hlt)
          have hxn : (childKeys C.K xs caps gl).names[n]? = some x := hxn
          rw [e1] at hxn
          have := List.getElem_mem hlt
          rw [Option.some.inj hxn] at this
          exact nodup_append_not S.nodup this hxc) (bind_child (ℓ := σ.loc) (caps := caps) (objs := objs) (u := u) hx q') T' R1 rvu' (.head _) hngI (.tail _ hmD) hLD hlD (by (first | lia | omega)) hat (.head _) (by exact Nat.ne_of_lt (Nat.lt_succ_self I)) fun σx hx' tkx mx adx newsx => comp_back ok R S hc1 hc2 it hlt hst' eI hngI F'.keep pre hat
    · refine ⟨0, h₁, s.toks + 0, _, ad ++ [I + 1], [(I + 1, lstObj [] 0)], σ.objs ++ [[]], ⟨rfl, Nat.zero_le _⟩, ⟨rfl, T0⟩, ⟨F0, N0, ?_⟩, ?_, st0, snoc_pre, ?_, ⟨_, [], .head _, ⟨0, rfl⟩, Nat.le_refl _⟩, q⟩
      · exact child_rel ok R S hc1 hc2 snoc_pre M0 fun _ _ h _ => h
      · intro p hp
        rw [List.mem_singleton.mp hp]
        exact Nat.succ_ne_self I
      · rw [← hlen, List.getElem?_concat_length]
  exact codeAny_compStart_list loop (it.W.self 0 _ _ _ st0 loop)
end
end Mine
namespace Mine
open PySem PySem.W PySem.Calls PyProof.Rows PyProof.V PySem.Spec

section
variable {C : Cx}
theorem SoundE.seq {p : PE} {e : Expr} (hs : SoundE C p e) {σ : St} {Q : AV → St → Prop} {s : Shared} {m : Str → Option Value} {ad : List Addr} {news : Led} {P : Value → Shared → Prop}
    (T : 0 < s.toks) (q : wpE C.gval C.fns p σ Q) (R : Rel C σ s.heap m ad news)
    (h : ∀ cv s₁ v σ₁ m₁ ad₁ news₁, Q v σ₁ → RV C.base C.fa ad₁ news₁ v cv → Rel C σ₁ s₁.heap m₁ ad₁ news₁ → Le C.fz ad news ad₁ news₁ → Rest s s₁ → 0 < s₁.toks → P cv s₁) :
    Wp C (eval e C.env) P s :=
  wpAny_mono (wpAny_toks (hs σ Q s m ad news T q R)) (fun cv s₁ hp => by
    obtain ⟨ht, v, σ₁, m₁, ad₁, news₁, q₁, rv, R₁, l, r⟩ := hp
    exact h cv s₁ v σ₁ m₁ ad₁ news₁ q₁ rv R₁ l r (Nat.lt_of_lt_of_le T ht)) fun _ _ x => x.2
theorem SoundEs.seq {p : PEs} {es : List Expr} (hs : SoundEs C p es) {σ : St} {Q : List AV → St → Prop} {s : Shared} {m : Str → Option Value} {ad : List Addr} {news : Led} {pos : Pos} {P : List Value → Shared → Prop}
    (T : 0 < s.toks) (q : wpEs C.gval C.fns p σ Q) (R : Rel C σ s.heap m ad news)
    (h : ∀ cv s₁ v σ₁ m₁ ad₁ news₁, Q v σ₁ → RVs C.base C.fa ad₁ news₁ v cv → Rel C σ₁ s₁.heap m₁ ad₁ news₁ → Le C.fz ad news ad₁ news₁ → Rest s s₁ → 0 < s₁.toks → P cv s₁) :
    Wp C (spliced (backTo pos (starEach es C.env))) P s :=
  wpAny_mono (wpAny_toks (hs σ Q s m ad news pos T q R)) (fun cv s₁ hp => by
    obtain ⟨ht, v, σ₁, m₁, ad₁, news₁, q₁, rv, R₁, l, r⟩ := hp
    exact h cv s₁ v σ₁ m₁ ad₁ news₁ q₁ rv R₁ l r (Nat.lt_of_lt_of_le T ht)) fun _ _ x => x.2
theorem SoundT.seq {p : PE} {e : Expr} (hs : SoundT C p e) {σ : St} {Q : AV → St → Prop} {s : Shared} {m : Str → Option Value} {ad : List Addr} {news : Led} {P : Bool → Shared → Prop}
    (T : 0 < s.toks) (q : wpE C.gval C.fns p σ Q) (hq : ∀ v σ', Q v σ' → ∃ b, truth σ' v = some b) (R : Rel C σ s.heap m ad news)
    (h : ∀ b s₁ v σ₁ m₁ ad₁ news₁, truth σ₁ v = some b → Q v σ₁ → Rel C σ₁ s₁.heap m₁ ad₁ news₁ → Le C.fz ad news ad₁ news₁ → Rest s s₁ → 0 < s₁.toks → P b s₁) :
    Wp C (isTrue e C.env (eval e C.env)) P s :=
  wpAny_mono (wpAny_toks (hs σ Q s m ad news T q hq R)) (fun cv s₁ hp => by
    obtain ⟨ht, v, σ₁, m₁, ad₁, news₁, t, q₁, R₁, l, r⟩ := hp
    exact h cv s₁ v σ₁ m₁ ad₁ news₁ t q₁ R₁ l r (Nat.lt_of_lt_of_le T ht)) fun _ _ x => x.2

theorem postV_up {t : Sem Value} {Q : AV → St → Prop} {s₀ s : Shared} {ad₀ ad : List Addr} {news₀ news : Led} (k : Le C.fz ad₀ news₀ ad news) (r : Rest s₀ s) (h : Wp C t (PostV C Q s ad news) s) : Wp C t (PostV C Q s₀ ad₀ news₀) s :=
  wpAny_mono h (fun _ _ x => x.up k r) fun _ _ x => x

theorem sConst {v : AV} {c : Const} {k : Nat} {pos : Pos} (h : mC v c = true) : SoundE C (.const v) (.Constant c k pos) := by
  intro σ Q s m ad news T q R
  have q : Q v σ := q
  cases v <;> first | exact (Bool.false_ne_true h).elim | skip
  · cases c <;> first | exact (Bool.false_ne_true h).elim | exact wpAny_Constant_none (PostV.same R q .none)
  · cases c <;> first | exact (Bool.false_ne_true h).elim | (cases eq_of_beq h; exact wpAny_Constant_bool (PostV.same R q (.bool _)))
  · cases c <;> first | exact (Bool.false_ne_true h).elim | (cases eq_of_beq h; exact wpAny_Constant_int (PostV.here R q (.int _ _)))
  · cases c <;> first | exact (Bool.false_ne_true h).elim | (cases eq_of_beq h; exact wpAny_Constant_float (PostV.here R q (.float _ _ (Nat.ne_of_gt T))))
  · cases c <;> first | exact (Bool.false_ne_true h).elim | (cases eq_of_beq h; exact wpAny_Constant_str (PostV.here R q (.str _ _)))

theorem load_sound (ok : CxOK C) {σ : St} {s : Shared} {m : Str → Option Value} {ad : List Addr} {news : Led} {x : Str} {cv : Value} {Q : Value → Shared → Prop} (hx : x ∈ C.K.names) (R : Rel C σ s.heap m ad news) (hv : VarAt C m news x cv) (q : Q cv s) :
    Wp C (loadName C.env x) Q s := by
  obtain ⟨hd, hl, hc⟩ := ok.locs x hx
  unfold VarAt at hv
  by_cases hx' : x ∈ C.K.cells
  · rw [if_pos hx'] at hv
    obtain ⟨c, o, h1, h2, h3⟩ := hv
    exact wpAny_loadName_cell ok.kind (hc hx') h1 ⟨o, h2.get R, h3⟩ q
  · rw [if_neg hx'] at hv
    exact wpAny_loadName_local ok.kind (hl hx') R.F.ns hv q

theorem sLoc (ok : CxOK C) {n : Nat} {x : Str} {pos : Pos} (h : C.K.names[n]? = some x) : SoundE C (.loc n) (.Name x pos) := by
  intro σ Q s m ad news T q R
  obtain ⟨v, hv, q⟩ := q
  obtain ⟨x', cv, h1, h2, h3⟩ := R.M.loc n v hv
  rw [h] at h1
  cases h1
  have hx := List.mem_of_getElem? h
  exact wpAny_Name (load_sound ok hx R h2 (PostV.same R q h3)) (ok.locs x hx).1

theorem sGlob (ok : CxOK C) {n : Nat} {x : Str} {pos : Pos} (h : C.K.globs[n]? = some x) (hf : x ∉ C.K.far) : SoundE C (.glob n) (.Name x pos) := by
  intro σ Q s m ad news T q R
  obtain ⟨v, hv, q⟩ := q
  obtain ⟨⟨hd, hk⟩, cv, hg, hm⟩ := ok.globs n x v h hv
  replace hk := hk hf
  have rv : RV C.base C.fa ad news v cv := by
    cases v <;> cases cv <;> first | (exact hg.elim) | skip
    · cases hg; exact .typ _
    · cases hg; exact .bi _
    · obtain ⟨rfl, o, fd, h1, h2⟩ := hg
      exact .fn _ o fd h1 h2
  have g : s.heap.Ns C.env.globals C.mg := by rw [ok.eg]; exact ok.g.keeps R.F.keep
  have b : s.heap.Ns C.env.builtins C.mb := by rw [ok.eb]; exact ok.b.keeps R.F.keep
  refine Calls.Name_function_global ok.kind hk ?_ hd
  rcases hm with hm | ⟨h1, h2⟩
  · exact Calls.loadGlobal_global g hm (PostV.same R q rv)
  · exact Calls.loadGlobal_builtin g h1 b h2 (PostV.same R q rv)

theorem sBin (ok : CxOK C) {op : Operator} {l r : PE} {l' r' : Expr} {pos : Pos} (h1 : SoundE C l l') (h2 : SoundE C r r') : SoundE C (.bin op l r) (.BinOp l' op r' pos) := by
  intro σ Q s m ad news T q R
  refine wpAny_BinOp (h1.seq T q R fun ca s₁ a σ₁ m₁ ad₁ news₁ q₁ ra R₁ l₁ r₁ T₁ => h2.seq T₁ q₁ R₁ fun cb s₂ b σ₂ m₂ ad₂ news₂ q₂ rb R₂ l₂ r₂ T₂ => ?_)
  exact postV_up (l₁.trans l₂) (r₁.trans r₂) (binL_sound T₂ R₂ (ra.le l₂) rb ok q₂)

theorem sNot (ok : CxOK C) {p : PE} {e : Expr} {pos : Pos} (h1 : SoundE C p e) (h2 : SoundT C p e) : SoundE C (.not p) (.UnaryOp .Not e pos) ∧ SoundT C (.not p) (.UnaryOp .Not e pos) := by
  constructor
  · intro σ Q s m ad news T q R
    refine UnaryOp_ (h1.seq T q R fun ca s₁ a σ₁ m₁ ad₁ news₁ q₁ ra R₁ l₁ r₁ T₁ => ?_)
    obtain ⟨b, hb, q₁⟩ := truthW_iff.mp q₁
    refine not_of (wpAny_mono (truth_sound R₁ ra hb) (fun c s₂ hc => ?_) fun _ _ x => x)
    obtain ⟨⟨tk, rfl⟩, rfl⟩ := hc
    exact (PostV.here R₁ q₁ (.bool _)).up l₁ r₁
  · intro σ Q s m ad news T q hq R
    refine isTrue_not (h2.seq T q (fun v σ' h => by obtain ⟨b, hb, _⟩ := truthW_iff.mp h; exact ⟨b, hb⟩) R fun b s₁ v σ₁ m₁ ad₁ news₁ ht q₁ R₁ l₁ r₁ T₁ => ?_)
    obtain ⟨b', hb, q₁⟩ := truthW_iff.mp q₁
    rw [ht] at hb
    cases hb
    exact ⟨_, σ₁, m₁, ad₁, news₁, rfl, q₁, R₁, l₁, r₁⟩

theorem sCmp (ok : CxOK C) {op : CmpOp} {l r : PE} {l' r' : Expr} {pos : Pos} (hm : behindInMarks op r' = false) (h1 : SoundE C l l') (h2 : SoundE C r r') :
    SoundE C (.cmp op l r) (.Compare l' [op] [r'] pos) ∧ SoundT C (.cmp op l r) (.Compare l' [op] [r'] pos) := by
  constructor
  · intro σ Q s m ad news T q R
    refine wpAny_Compare1 (h1.seq T q R fun ca s₁ a σ₁ m₁ ad₁ news₁ q₁ ra R₁ l₁ r₁ T₁ => h2.seq T₁ q₁ R₁ fun cb s₂ b σ₂ m₂ ad₂ news₂ q₂ rb R₂ l₂ r₂ T₂ => ?_) hm
    refine wpAny_mono (cmpL_sound R₂ (ra.le l₂) rb ok q₂) (fun cv s₃ h3 => ?_) fun _ _ x => x
    obtain ⟨c, rfl, rfl, q₃⟩ := h3
    exact (PostV.same R₂ q₃ (.bool _)).up (l₁.trans l₂) (r₁.trans r₂)
  · intro σ Q s m ad news T q hq R
    refine wpAny_isTrue_Compare1 (h1.seq T q R fun ca s₁ a σ₁ m₁ ad₁ news₁ q₁ ra R₁ l₁ r₁ T₁ => h2.seq T₁ q₁ R₁ fun cb s₂ b σ₂ m₂ ad₂ news₂ q₂ rb R₂ l₂ r₂ T₂ => ?_) hm
    refine wpAny_mono (cmpL_sound R₂ (ra.le l₂) rb ok q₂) (fun cv s₃ h3 => ?_) fun _ _ x => x
    obtain ⟨c, rfl, rfl, q₃⟩ := h3
    exact wpAny_truthy_bool ⟨_, σ₂, m₂, ad₂, news₂, rfl, q₃, R₂, l₁.trans l₂, r₁.trans r₂⟩

theorem sTuple (ok : CxOK C) {ps : PEs} {es : List Expr} {k : Nat} {pos : Pos} (h1 : SoundEs C ps es) : SoundE C (.tuple ps) (.Tuple es k pos) := by
  intro σ Q s m ad news T q R
  refine Tuple_ (h1.seq T q R fun cs s₁ vs σ₁ m₁ ad₁ news₁ q₁ rs R₁ l₁ r₁ T₁ => ?_)
  refine newTuple_N R₁.F R₁.N (fun h' F' N' => ?_) (by rw [← rs.length]; exact q₁.1)
  exact ⟨_, σ₁, m₁, ad₁, _, q₁.2, .tup _ cs _ 0 (.inl (.head _)) (rs.le (Le.cons (fz := []))), R₁.more F' N', l₁.trans Le.cons, r₁.trans Rest.heap⟩

theorem sList (ok : CxOK C) {ps : PEs} {es : List Expr} {pos : Pos} (h1 : SoundEs C ps es) : SoundE C (.list ps) (.List es pos) := by
  intro σ Q s m ad news T q R
  refine List_ (h1.seq T q R fun cs s₁ vs σ₁ m₁ ad₁ news₁ q₁ rs R₁ l₁ r₁ T₁ => ?_)
  obtain ⟨hz, n, rfl, q₁⟩ := q₁
  refine newList_N R₁.F R₁.N (fun h' F' N' => ?_) (by rw [← rs.length]; exact hz)
  refine ⟨_, _, m₁, ad₁ ++ [s₁.heap.objs.size], _, q₁, .lst _ _ ?_, R₁.alloc F' N' (Nat.le_refl _) rs, l₁.trans Le.snoc, r₁.trans Rest.heap⟩
  rw [← R₁.M.len, List.getElem?_concat_length]

theorem sSub (ok : CxOK C) {p i : PE} {e i' : Expr} {pos : Pos} (hp : (match i' with | .Slice .. => false | _ => true) = true) (h1 : SoundE C p e) (h2 : SoundE C i i') : SoundE C (.sub p i) (.Subscript e i' pos) := by
  intro σ Q s m ad news T q R
  refine Subscript_ (h1.seq T q R fun ca s₁ a σ₁ m₁ ad₁ news₁ q₁ ra R₁ l₁ r₁ T₁ => h2.seq T₁ q₁ R₁ fun cb s₂ b σ₂ m₂ ad₂ news₂ q₂ rb R₂ l₂ r₂ T₂ => ?_)
  exact postV_up (l₁.trans l₂) (r₁.trans r₂) (sub_sound R₂ (ra.le l₂) rb hp q₂)

theorem sSlAll (ok : CxOK C) {p lo hi : PE} {e lo' hi' : Expr} {p₁ pos : Pos} (h1 : SoundE C p e) (h2 : SoundE C lo lo') (h3 : SoundE C hi hi') : SoundE C (.slAll p lo hi) (.Subscript e (.Slice (some lo') (some hi') none p₁) pos) := by
  intro σ Q s m ad news T q R
  refine Subscript_ (h1.seq T q R fun ca s₁ a σ₁ m₁ ad₁ news₁ q₁ ra R₁ l₁ r₁ T₁ => wpAny_Slice (evalPart_some_step (h2.seq T₁ q₁ R₁ fun cb s₂ b σ₂ m₂ ad₂ news₂ q₂ rb R₂ l₂ r₂ T₂ =>
    evalPart_some_step (h3.seq T₂ q₂ R₂ fun cc s₃ c σ₃ m₃ ad₃ news₃ q₃ rc R₃ l₃ r₃ T₃ => evalPart_none_step ?_))))
  obtain ⟨k, j, rfl, rfl, q₃⟩ := q₃
  cases rb
  cases rc
  exact wpAny_mono (slice_sound (value := none) R₃ (ra.le (l₂.trans l₃)) (.int _ _) (.int _ _) q₃) (fun _ _ x => x.up ((l₁.trans l₂).trans l₃) ((r₁.trans r₂).trans r₃)) fun _ _ x => x

theorem sEsNil (ok : CxOK C) : SoundEs C .nil [] := by
  intro σ Q s m ad news pos T q R
  exact spliced_none ⟨[], σ, m, ad, news, q, .nil, R, Le.refl, Rest.refl⟩
theorem sEsCons (ok : CxOK C) {p : PE} {e : Expr} {ps : PEs} {es : List Expr} (hn : (match e with | .Starred .. => false | _ => true) = true) (h1 : SoundE C p e) (h2 : SoundEs C ps es) : SoundEs C (.cons p ps) (e :: es) := by
  intro σ Q s m ad news pos T q R
  have he : starEach (e :: es) C.env = (false, eval e C.env) :: starEach es C.env := by cases e <;> first | rfl | cases hn
  refine spliced_more (h1.seq T q R fun ca s₁ a σ₁ m₁ ad₁ news₁ q₁ ra R₁ l₁ r₁ T₁ => h2.seq T₁ q₁ R₁ fun cs s₂ vs σ₂ m₂ ad₂ news₂ q₂ rs R₂ l₂ r₂ T₂ => ?_) he
  exact ⟨_, σ₂, m₂, ad₂, news₂, q₂, .cons _ _ _ _ (ra.le l₂) rs, R₂, l₁.trans l₂, r₁.trans r₂⟩

theorem and2' {a b : Bool} (h : (a && b) = true) : a = true ∧ b = true := by cases a <;> cases b <;> first | exact ⟨rfl, rfl⟩ | cases h
theorem plain_any (env : Env) (pos : Pos) : ∀ {ps : PEs} {es : List Expr} (K : Keys), mEs K ps es = true → (backTo pos (starEach es env)).any (·.1) = false
  | .nil, [], _, _ => rfl
  | .nil, _ :: _, _, h => by cases h
  | .cons _ _, [], _, h => by cases h
  | .cons p ps, e :: es, K, h => by
    replace h : notStar e = true ∧ mE K p e = true ∧ mEs K ps es = true := ⟨(and2' h).1, and2' (and2' h).2⟩
    have he : starEach (e :: es) env = (false, eval e env) :: starEach es env := by cases e <;> first | rfl | cases h.1
    rw [he]
    show (false || (backTo pos (starEach es env)).any (·.1)) = false
    rw [plain_any env pos K h.2.2]
    rfl

theorem sCall (ok : CxOK C) {f : PE} {ps : PEs} {x : Str} {np pos : Pos} {e : Expr} {es : List Expr} (h1 : SoundE C f (.Name x np)) (h2 : SoundEs C ps (e :: es)) (hm : mEs C.K ps (e :: es) = true) : SoundE C (.call f ps) (.Call (.Name x np) (e :: es) [] pos) := by
  intro σ Q s m ad news T q R
  refine Call_ (h1.seq T q R fun cf s₁ fv σ₁ m₁ ad₁ news₁ q₁ rf R₁ l₁ r₁ T₁ => ?_)
  obtain ⟨hc, q₁⟩ := q₁
  have he : starEach (e :: es) C.env = (false, eval e C.env) :: starEach es C.env ∧ (backTo pos (starEach es C.env)).any (·.1) = false := by
    cases ps with
    | nil => cases hm
    | cons p ps =>
      replace hm : notStar e = true ∧ mE C.K p e = true ∧ mEs C.K ps es = true := ⟨(and2' hm).1, and2' (and2' hm).2⟩
      refine ⟨?_, plain_any C.env pos C.K hm.2.2⟩
      cases e <;> first | rfl | cases hm.1
  have args : Wp C (spliced (backTo pos (starEach (e :: es) C.env))) (fun vs s₂ => (∀ b o, C.base.get? b = some o → s₂.heap.get? b = some o) ∧ Wp C (call cf vs) (PostV C Q s ad news) s₂) s₁ :=
    h2.seq T₁ q₁ R₁ fun cs s₂ vs σ₂ m₂ ad₂ news₂ q₂ rs R₂ l₂ r₂ T₂ => ⟨R₂.F.keep, postV_up (l₁.trans l₂) (r₁.trans r₂) (call_sound T₂ R₂ (rf.le l₂) rs ok q₂)⟩
  cases rf with
  | bi b => exact PyProof.Rows.callWith_builtin1 (wpAny_mono args (fun _ _ x => x.2) fun _ _ x => x) he.1 he.2
  | typ t => exact PyProof.Rows.callWith_type1 (wpAny_mono args (fun _ _ x => x.2) fun _ _ x => x) he.1 he.2
  | fn k o fd ho hd => exact callWith_def hd (wpAny_mono args (fun _ _ x => ⟨x.1 _ _ (ok.htop _ _ ho), x.2⟩) fun _ _ x => x) he.1
  | _ => cases hc

theorem sComp (ok : CxOK C) {elt iter : PE} {o : Option Nat} {caps gl : List Nat} {ifs : PEs} {elt' tgt iter' : Expr} {ifs' : List Expr} {sc : Scope} {pos : Pos} {xs : List Str} (hset : notSet iter' = true)
    (hx : tgtNames o tgt = some xs) (hsc : scopeOk C.K xs caps gl sc = true) (h1 : SoundE C iter iter')
    (h2 : ∀ C', CxOK C' → C'.K = childKeys C.K xs caps gl → SoundE C' elt elt') (h3 : ∀ C', CxOK C' → C'.K = childKeys C.K xs caps gl → SoundTs C' ifs ifs') :
    SoundE C (.comp elt o caps gl iter ifs) (.ListComp elt' [⟨tgt, iter', ifs', 0⟩] sc pos) := by
  intro σ Q s m ad news T q R
  have S := scope_ok hsc
  obtain ⟨cl, e1, hc1, hc2⟩ := clos C.env sc (fun y hy hf => by
    obtain ⟨i, hi, e⟩ := S.free y hy hf
    rw [← e]
    exact ok.cellat _ (S.cp i hi).1.2)
  have hs : ∀ v, foldedSetIterable iter' C.env v = pure v := by intro v; cases iter' <;> first | rfl | cases hset
  show Wp C (comprehension (.ListComp elt' [⟨tgt, iter', ifs', 0⟩] sc pos) sc C.env (firstIterPos [⟨tgt, iter', ifs', 0⟩] pos) (newList []) false (eval iter' C.env)) _ s
  refine (wpAny_comprehension_free (use := none) (g := ⟨tgt, iter', ifs', 0⟩) (gs := []) rfl hs e1 S.kind S.names (h1.seq T q R fun cv s₁ v σ₁ m₁ ad₁ news₁ q₁ rv R₁ l₁ r₁ T₁ => ?_))
  refine iter_sound ok q₁ R₁ rv fun items io fp fs P St hk it hf hst hfp => ?_
  obtain ⟨hsz, n, rfl, qc⟩ := hk
  refine comp_block (RR := compPost (model C.prog C.w) C.A NoE none (PostV C Q s ad news)) ok S hx hc1 hc2 h2 h3 T₁ R₁ it hst hfp hsz qc ?_
  rintro D L h tk m' ad' news' objs hD hL ⟨Rc, pre, hat, oD, its, hmD, hLD⟩ qf
  refine ⟨m', Rc.F.ns, fun h' hs' => ?_⟩
  have keep : ∀ b o, s₁.heap.get? b = some o → h'.get? b = some o := fun b o e => (hs'.2 b (Nat.ne_of_lt (Nat.lt_of_lt_of_le (Heap.lt_size e) Rc.F.above))).trans (Rc.F.keep b o e)
  have N' : News s₁.heap L h' news' := fun p hp => ⟨(hs'.2 _ (Rc.N p hp).2.1).trans (Rc.N p hp).1, (Rc.N p hp).2⟩
  have R' := up_RelK (C' := childCx C s₁.heap xs caps gl sc cl L D) R₁ keep N' Rc.M rfl rfl pre
  refine ⟨.lst σ₁.objs.length, ⟨σ₁.loc, objs, σ₁.objs.length :: σ₁.own⟩, m₁, ad', _, qf, .lst _ D hat, ⟨R'.F, R'.N, ?_⟩, l₁.trans (up_Le R₁ pre), r₁.trans Rest.mk'⟩
  refine ⟨R'.M.loc, R'.M.len, R'.M.obj, fun i hi => ?_, R'.M.inj, R'.M.fzin, R'.M.cells⟩
  rcases List.mem_cons.mp hi with rfl | hi
  · refine ⟨D, oD, hat, ⟨List.mem_append_right _ hmD, its, hLD⟩, fun hf' => ?_⟩
    have := R₁.fz_lt hf'
    rw [hD] at this
    exact absurd this (Nat.not_lt.mpr (Nat.le_succ _))
  · exact R'.M.own i hi

theorem and2 {a b : Bool} (h : (a && b) = true) : a = true ∧ b = true := and2' h
theorem sBoth {C : Cx} {p : PE} {e : Expr} (hE : SoundE C p e) (h : ∀ whole, isTrue e C.env whole = (do let v ← whole; standAt e.pos; holding [v] (truthy v))) : SoundE C p e ∧ SoundT C p e := ⟨hE, testOf hE h⟩
noncomputable def Vconst (K : Keys) (e : Expr) (v : AV) : Prop := ∃ c k pos, e = .Constant c k pos ∧ mC v c = true
theorem inv_const {K : Keys} {e : Expr} {v : AV} (h : mE K (.const v) e = true) : Vconst K e v := by
  cases e <;> first | exact (Bool.false_ne_true h).elim | exact ⟨_, _, _, rfl, h⟩
noncomputable def Vloc (K : Keys) (e : Expr) (n : Nat) : Prop := ∃ x pos, e = .Name x pos ∧ (K.names[n]? == some x) = true
theorem inv_loc {K : Keys} {e : Expr} {n : Nat} (h : mE K (.loc n) e = true) : Vloc K e n := by
  cases e <;> first | exact (Bool.false_ne_true h).elim | exact ⟨_, _, rfl, h⟩
noncomputable def Vglob (K : Keys) (e : Expr) (n : Nat) : Prop := ∃ x pos, e = .Name x pos ∧ (K.globs[n]? == some x && !(K.far.contains x)) = true
theorem inv_glob {K : Keys} {e : Expr} {n : Nat} (h : mE K (.glob n) e = true) : Vglob K e n := by
  cases e <;> first | exact (Bool.false_ne_true h).elim | exact ⟨_, _, rfl, h⟩
noncomputable def Vbin (K : Keys) (e : Expr) (op : Operator) (l r : PE) : Prop := ∃ l' op' r' pos, e = .BinOp l' op' r' pos ∧ (op == op' && (mE K l l' && mE K r r')) = true
theorem inv_bin {K : Keys} {e : Expr} {op : Operator} {l r : PE} (h : mE K (.bin op l r) e = true) : Vbin K e op l r := by
  cases e <;> first | exact (Bool.false_ne_true h).elim | exact ⟨_, _, _, _, rfl, h⟩
noncomputable def Vnot (K : Keys) (e : Expr) (p : PE) : Prop := ∃ e' pos, e = .UnaryOp .Not e' pos ∧ mE K p e' = true
theorem inv_not {K : Keys} {e : Expr} {p : PE} (h : mE K (.not p) e = true) : Vnot K e p := by
  cases e <;> first | exact (Bool.false_ne_true h).elim | skip
  rename_i uop e' pos
  cases uop <;> first | exact (Bool.false_ne_true h).elim | exact ⟨_, _, rfl, h⟩
noncomputable def Vcmp (K : Keys) (e : Expr) (op : CmpOp) (l r : PE) : Prop := ∃ l' op' r' pos, e = .Compare l' [op'] [r'] pos ∧ (op == op' && (behindInMarks op' r' == false && (mE K l l' && mE K r r'))) = true
theorem inv_cmp {K : Keys} {e : Expr} {op : CmpOp} {l r : PE} (h : mE K (.cmp op l r) e = true) : Vcmp K e op l r := by
  cases e <;> first | exact (Bool.false_ne_true h).elim | skip
  rename_i l' ops cs pos
  match ops, cs, h with
  | [op'], [r'], h => exact ⟨_, _, _, _, rfl, h⟩
noncomputable def Vbools (K : Keys) (e : Expr) (b : Bool) (es : PEs) : Prop := ∃ es' pos, e = .BoolOp (if b then .And else .Or) es' pos ∧ mEs K es es' = true
theorem inv_bools {K : Keys} {e : Expr} {b : Bool} {es : PEs} (h : mE K (.bools b es) e = true) : Vbools K e b es := by
  cases e <;> first | exact (Bool.false_ne_true h).elim | skip
  rename_i bop es' pos
  cases b <;> cases bop <;> first | exact ⟨_, _, rfl, h⟩ | exact (Bool.false_ne_true h).elim
noncomputable def Vcall (K : Keys) (e : Expr) (f : PE) (args : PEs) : Prop := ∃ x np e' args' pos, e = .Call (.Name x np) (e' :: args') [] pos ∧ (mE K f (.Name x np) && mEs K args (e' :: args')) = true
theorem inv_call {K : Keys} {e : Expr} {f : PE} {args : PEs} (h : mE K (.call f args) e = true) : Vcall K e f args := by
  cases e <;> first | exact (Bool.false_ne_true h).elim | skip
  rename_i f' es kws pos
  cases f' <;> first | exact (Bool.false_ne_true h).elim | skip
  cases es with
  | nil => exact (Bool.false_ne_true h).elim
  | cons e₁ es =>
    cases kws with
    | cons _ _ => exact (Bool.false_ne_true h).elim
    | nil => exact ⟨_, _, _, _, _, rfl, h⟩
noncomputable def Vsub (K : Keys) (e : Expr) (p i : PE) : Prop := ∃ e' i' pos, e = .Subscript e' i' pos ∧ (notSlice i' && (mE K p e' && mE K i i')) = true
theorem inv_sub {K : Keys} {e : Expr} {p i : PE} (h : mE K (.sub p i) e = true) : Vsub K e p i := by
  cases e <;> first | exact (Bool.false_ne_true h).elim | exact ⟨_, _, _, rfl, h⟩
noncomputable def VslAll (K : Keys) (e : Expr) (p lo hi : PE) : Prop := ∃ e' lo' hi' p₁ pos, e = .Subscript e' (.Slice (some lo') (some hi') none p₁) pos ∧ (mE K p e' && (mE K lo lo' && mE K hi hi')) = true
theorem inv_slAll {K : Keys} {e : Expr} {p lo hi : PE} (h : mE K (.slAll p lo hi) e = true) : VslAll K e p lo hi := by
  cases e <;> first | exact (Bool.false_ne_true h).elim | skip
  rename_i e' sl pos
  cases sl <;> first | exact (Bool.false_ne_true h).elim | skip
  rename_i lo' hi' st' p₁
  cases lo' <;> cases hi' <;> cases st' <;> first | exact (Bool.false_ne_true h).elim | exact ⟨_, _, _, _, _, rfl, h⟩
noncomputable def Vtuple (K : Keys) (e : Expr) (es : PEs) : Prop := ∃ es' k pos, e = .Tuple es' k pos ∧ mEs K es es' = true
theorem inv_tuple {K : Keys} {e : Expr} {es : PEs} (h : mE K (.tuple es) e = true) : Vtuple K e es := by
  cases e <;> first | exact (Bool.false_ne_true h).elim | exact ⟨_, _, _, rfl, h⟩
noncomputable def Vlist (K : Keys) (e : Expr) (es : PEs) : Prop := ∃ es' pos, e = .List es' pos ∧ mEs K es es' = true
theorem inv_list {K : Keys} {e : Expr} {es : PEs} (h : mE K (.list es) e = true) : Vlist K e es := by
  cases e <;> first | exact (Bool.false_ne_true h).elim | exact ⟨_, _, rfl, h⟩
noncomputable def Vcomp (K : Keys) (e : Expr) (elt iter : PE) (o : Option Nat) (caps gl : List Nat) (ifs : PEs) : Prop := ∃ elt' tgt iter' ifs' sc pos xs, e = .ListComp elt' [⟨tgt, iter', ifs', 0⟩] sc pos ∧
    tgtNames o tgt = some xs ∧ notSet iter' = true ∧ scopeOk K xs caps gl sc = true ∧ ifs'.length ≤ 1 ∧ mE K iter iter' = true ∧ mE (childKeys K xs caps gl) elt elt' = true ∧ mEs (childKeys K xs caps gl) ifs ifs' = true
theorem inv_comp {K : Keys} {e : Expr} {elt iter : PE} {o : Option Nat} {caps gl : List Nat} {ifs : PEs} (h : mE K (.comp elt o caps gl iter ifs) e = true) : Vcomp K e elt iter o caps gl ifs := by
  cases e <;> first | exact (Bool.false_ne_true h).elim | skip
  rename_i elt' gens sc pos
  match gens, h with
  | [⟨tgt, iter', ifs', 0⟩], h =>
    obtain ⟨hset, h⟩ := and2 h
    obtain ⟨h1, h⟩ := and2 h
    unfold compKeys at h
    cases hx : tgtNames o tgt with
    | none => rw [hx] at h; cases h
    | some xs =>
      rw [hx] at h
      obtain ⟨ha, hb⟩ := and2 h
      obtain ⟨hc, hd⟩ := and2 ha
      obtain ⟨he, hf⟩ := and2 hb
      exact ⟨_, _, _, _, _, _, xs, rfl, hx, hset, hc, of_decide_eq_true hd, h1, he, hf⟩
mutual
theorem sound : ∀ (p : PE) (C : Cx) (ok : CxOK C) (e : Expr), mE C.K p e = true → SoundE C p e ∧ SoundT C p e
  | .const v, C, ok, e, h => by
    obtain ⟨c, k, pos, rfl, h⟩ := inv_const h
    exact sBoth (sConst h) fun _ => rfl
  | .loc n, C, ok, e, h => by
    obtain ⟨x, pos, rfl, h⟩ := inv_loc h
    exact sBoth (sLoc ok (eq_of_beq h)) fun _ => rfl
  | .glob n, C, ok, e, h => by
    obtain ⟨x, pos, rfl, h⟩ := inv_glob h
    obtain ⟨h1, h2⟩ := and2 h
    exact sBoth (sGlob ok (eq_of_beq h1) (by intro hm; rw [List.contains_iff_mem.mpr hm] at h2; cases h2)) fun _ => rfl
  | .bin op l r, C, ok, e, h => by
    obtain ⟨l', op', r', pos, rfl, h⟩ := inv_bin h
    obtain ⟨ho, h⟩ := and2 h
    obtain ⟨h1, h2⟩ := and2 h
    cases eq_of_beq ho
    exact sBoth (sBin ok (sound l C ok _ h1).1 (sound r C ok _ h2).1) fun _ => rfl
  | .not p, C, ok, e, h => by
    obtain ⟨e', pos, rfl, h⟩ := inv_not h
    exact sNot ok (sound p C ok _ h).1 (sound p C ok _ h).2
  | .cmp op l r, C, ok, e, h => by
    obtain ⟨l', op', r', pos, rfl, h⟩ := inv_cmp h
    obtain ⟨ho, h⟩ := and2 h
    obtain ⟨hm, h⟩ := and2 h
    obtain ⟨h1, h2⟩ := and2 h
    cases eq_of_beq ho
    exact sCmp ok (eq_of_beq hm) (sound l C ok _ h1).1 (sound r C ok _ h2).1
  | .bools isAnd es, C, ok, e, h => by
    obtain ⟨es', pos, rfl, hm⟩ := inv_bools h
    match es, es', hm with
    | .nil, [], _ => exact ⟨fun σ Q s m ad news _ q => q.elim, fun σ Q s m ad news _ q => q.elim⟩
    | .cons p ps, e₁ :: es₁, hm =>
      have h1 := sound p C ok e₁ (and2 (and2 hm).2).1
      have h2 := soundBr ps isAnd C ok es₁ (and2 (and2 hm).2).2
      exact ⟨fun σ Q s m ad news T q R => (h2 e₁ p pos σ Q s m ad news h1.1 h1.2 T q R).1, fun σ Q s m ad news T q hq R => (h2 e₁ p pos σ Q s m ad news h1.1 h1.2 T q R).2 hq _⟩
  | .call f ps, C, ok, e, h => by
    obtain ⟨x, np, e', args', pos, rfl, h⟩ := inv_call h
    obtain ⟨h1, h2⟩ := and2 h
    exact sBoth (sCall ok (sound f C ok _ h1).1 (sounds ps C ok _ h2) h2) fun _ => rfl
  | .sub p i, C, ok, e, h => by
    obtain ⟨e', i', pos, rfl, h⟩ := inv_sub h
    obtain ⟨h1, h⟩ := and2 h
    obtain ⟨h2, h3⟩ := and2 h
    exact sBoth (sSub ok h1 (sound p C ok _ h2).1 (sound i C ok _ h3).1) fun _ => rfl
  | .slTo _ _, C, ok, e, h => by cases h
  | .slAll p lo hi, C, ok, e, h => by
    obtain ⟨e', lo', hi', p₁, pos, rfl, h⟩ := inv_slAll h
    obtain ⟨h1, h⟩ := and2 h
    obtain ⟨h2, h3⟩ := and2 h
    exact sBoth (sSlAll ok (sound p C ok _ h1).1 (sound lo C ok _ h2).1 (sound hi C ok _ h3).1) fun _ => rfl
  | .tuple es, C, ok, e, h => by
    obtain ⟨es', k, pos, rfl, h⟩ := inv_tuple h
    exact sBoth (sTuple ok (sounds es C ok _ h)) fun _ => rfl
  | .list es, C, ok, e, h => by
    obtain ⟨es', pos, rfl, h⟩ := inv_list h
    exact sBoth (sList ok (sounds es C ok _ h)) fun _ => rfl
  | .comp elt o caps gl iter ifs, C, ok, e, h => by
    obtain ⟨elt', tgt, iter', ifs', sc, pos, xs, rfl, hx, hset, hsc, hlen, hm1, hm2, hm3⟩ := inv_comp h
    exact sBoth (sComp ok (pos := pos) hset hx hsc (sound iter C ok _ hm1).1 (fun C' ok' hK => (sound elt C' ok' elt' (by rw [hK]; exact hm2)).1) (fun C' ok' hK => soundTs ifs C' ok' ifs' (by rw [hK]; exact hm3) hlen)) fun _ => rfl
theorem sounds : ∀ (ps : PEs) (C : Cx) (ok : CxOK C) (es : List Expr), mEs C.K ps es = true → SoundEs C ps es
  | .nil, C, ok, [], _ => sEsNil ok
  | .nil, _, _, _ :: _, h => by cases h
  | .cons _ _, _, _, [], h => by cases h
  | .cons p ps, C, ok, e :: es, h => by
    exact sEsCons ok (and2 h).1 (sound p C ok e (and2 (and2 h).2).1).1 (sounds ps C ok es (and2 (and2 h).2).2)
theorem soundTs : ∀ (ps : PEs) (C : Cx) (ok : CxOK C) (es : List Expr), mEs C.K ps es = true → es.length ≤ 1 → SoundTs C ps es
  | .nil, C, ok, [], _, _ => sTsNil
  | .nil, _, _, _ :: _, h, _ => by cases h
  | .cons _ _, _, _, [], h, _ => by cases h
  | .cons p .nil, C, ok, [e], h, _ => by
    exact sTsOne (sound p C ok e (and2 (and2 h).2).1).2
  | .cons p .nil, _, _, _ :: _ :: _, h, hl => by simp at hl
  | .cons p (.cons _ _), _, _, _ :: _ :: _, h, hl => by simp at hl
  | .cons p (.cons _ _), _, _, [_], h, hl => by cases (and2 (and2 h).2).2
theorem soundBr : ∀ (ps : PEs) (isAnd : Bool) (C : Cx) (ok : CxOK C) (es : List Expr), mEs C.K ps es = true → SoundBr C isAnd ps es
  | .nil, isAnd, C, ok, [], _ => brNil ok isAnd
  | .nil, _, _, _, _ :: _, h => by cases h
  | .cons _ _, _, _, _, [], h => by cases h
  | .cons p ps, isAnd, C, ok, e :: es, h => by
    have h2 := and2 (and2 h).2
    exact brCons ok isAnd (sound p C ok e h2.1).1 (sound p C ok e h2.1).2 (soundBr ps isAnd C ok es h2.2)
end
end
end Mine
namespace Mine
open PySem PySem.W PySem.Calls PyProof.Rows PyProof.V PySem.Spec

noncomputable def flowIs (C : Cx) (ad : List Addr) (news : Led) : Fl → Flow → Prop
  | .next, .next => True
  | .ret v, .ret cv => RV C.base C.fa ad news v cv
  | _, _ => False
noncomputable def PostS (C : Cx) (Q : Fl → St → Prop) (s : Shared) (ad : List Addr) (news : Led) (f : Flow) (s' : Shared) : Prop :=
  ∃ fl σ' m' ad' news', Q fl σ' ∧ flowIs C ad' news' fl f ∧ Rel C σ' s'.heap m' ad' news' ∧ Le C.fz ad news ad' news' ∧ Rest s s'
theorem PostS.up {C : Cx} {Q : Fl → St → Prop} {s₀ s : Shared} {ad₀ ad : List Addr} {news₀ news : Led} (k : Le C.fz ad₀ news₀ ad news) (r : Rest s₀ s) {f : Flow} {s' : Shared} (h : PostS C Q s ad news f s') : PostS C Q s₀ ad₀ news₀ f s' := by
  obtain ⟨v, σ', m', ad', news', q, rv, R, l, r'⟩ := h
  exact ⟨v, σ', m', ad', news', q, rv, R, k.trans l, r.trans r'⟩

noncomputable def SoundS (C : Cx) (p : PS) (st : Stmt) : Prop := ∀ (σ : St) (Q : Fl → St → Prop) (s : Shared) (m : Str → Option Value) (ad : List Addr) (news : Led),
  0 < s.toks → wpS C.gval C.fns p σ Q → Rel C σ s.heap m ad news → Wp C (exec st C.env) (PostS C Q s ad news) s
noncomputable def SoundSs (C : Cx) (p : PSs) (st : List Stmt) : Prop := ∀ (σ : St) (Q : Fl → St → Prop) (s : Shared) (m : Str → Option Value) (ad : List Addr) (news : Led),
  0 < s.toks → wpSs C.gval C.fns p σ Q → Rel C σ s.heap m ad news → Wp C (execs st C.env) (PostS C Q s ad news) s

section
variable {C : Cx}

theorem may (hoc : C.ownCells = true) (ns : List Nat) : mayStore C ns := fun _ _ _ _ _ => hoc

theorem sAssignN (ok : CxOK C) (hoc : C.ownCells = true) {n : Nat} {x : Str} {p : PE} {e : Expr} {p₁ pos : Pos} (hx : C.K.names[n]? = some x) (hc : rhsOk (.Name x p₁) e = true) (h1 : SoundE C p e) :
    SoundS C (.assign (.name n) p) (.Assign [.Name x p₁] e pos) := by
  intro σ Q s m ad news T q R
  have hs : swapsWith e (some (.Name x p₁)) pos.line C.env = pure false := by cases e <;> first | rfl | cases hc
  refine wpAny_Assign_Name (h1.seq T q R fun cv s₁ v σ₁ m₁ ad₁ news₁ q₁ rv R₁ l₁ r₁ T₁ => store_sound ok hx (fun _ => hoc) R₁ rv fun h' tk m' news' R' l' => ?_) hs
  exact ⟨.next, _, m', ad₁, news', q₁, trivial, R', l₁.trans l', r₁.trans Rest.mk'⟩

theorem Rel.other {σ : St} {h h' : Heap} {m : Str → Option Value} {ad : List Addr} {news : Led} {L : Addr} (R : Rel C σ h m ad news) (hs : Heap.SameBut L h h') (h1 : C.env.locals ≠ L) (h2 : C.base.get? L = none) (h3 : ∀ p ∈ news, p.1 ≠ L) : Rel C σ h' m ad news :=
  ⟨⟨R.F.ns.sameBut hs h1, fun b o e => (hs.2 b (by rintro rfl; rw [h2] at e; cases e)).trans (R.F.keep b o e), R.F.above⟩, fun p hp => ⟨(hs.2 _ (h3 p hp)).trans (R.N p hp).1, (R.N p hp).2⟩, R.M⟩
theorem sAssignT (ok : CxOK C) (hoc : C.ownCells = true) {ns : List Nat} {es : List Expr} {k : Nat} {p : PE} {e : Expr} {p₁ pos : Pos} (hm : mT C.K (.tup ns) (.Tuple es k p₁) = true)
    (hc : rhsOk (.Tuple es k p₁) e = true) (h1 : SoundE C p e) : SoundS C (.assign (.tup ns) p) (.Assign [.Tuple es k p₁] e pos) := by
  intro σ Q s m ad news T q R
  have hs : swapsWithSole [.Tuple es k p₁] e pos.line C.env = pure false := by cases e <;> rfl
  have hw : swappedStores [.Tuple es k p₁] e C.env = pure none := by cases e <;> first | rfl | exact swap_none hc
  refine Assign_Tuple (h1.seq T q R fun cv s₁ v σ₁ m₁ ad₁ news₁ q₁ rv R₁ l₁ r₁ T₁ => bind_sound ok hm (may hoc _) q₁ R₁ rv fun σ' h' tk m' news' q₂ R' l' => ?_) hs hw
  exact ⟨.next, _, m', ad₁, news', q₂, trivial, R', l₁.trans l', r₁.trans Rest.mk'⟩

theorem aug_sound (ok : CxOK C) {op : Operator} {a b : AV} {ca cb : Value} {Q : AV → St → Prop} {σ : St} {s : Shared} {m : Str → Option Value} {ad : List Addr} {news : Led}
    (R : Rel C σ s.heap m ad news) (ra : RV C.base C.fa ad news a ca) (rb : RV C.base C.fa ad news b cb) (q : augW op a b σ Q) : Wp C (inplaceOp op ca cb) (PostV C Q s ad news) s := by
  unfold augW at q
  split at q <;> first | exact False.elim q | skip
  · rename_i i j
    obtain ⟨l, k, ⟨hl, hk⟩, ⟨oi, hz⟩, q⟩ := q
    cases ra with | lst _ x hx => cases rb with | lst _ y hy =>
    obtain ⟨a₁, o₁, e1, ⟨m1, its₁, n₁, rfl⟩, f1⟩ := R.M.own i oi
    rw [hx] at e1; cases e1
    obtain ⟨i1, L1, r1⟩ := isList R hl hx
    obtain ⟨i2, L2, r2⟩ := isList R hk hy
    have g1 := (R.N _ m1).1
    have same : ∀ {a : Addr} {items its : List Value} {n : Nat}, s.heap.IsList a items.toArray → s.heap.get? a = some (lstObj its n) → its = items := by
      intro a items its n h1 h2
      obtain ⟨o, h3, _, n', h4⟩ := h1
      rw [h2] at h3
      cases h3
      simpa using (Data.seq.inj h4).1
    have s1 := same L1 g1
    subst s1
    refine list_iadd g1 L2 (by simp only [List.size_toArray]; rw [← r1.length, ← r2.length]; exact hz) fun h' hs ⟨n', hg⟩ => ?_
    rw [show (its₁.toArray ++ i2.toArray) = (its₁ ++ i2).toArray by simp] at hg
    refine ⟨_, _, m, ad, _, q, .lst _ _ hx, R.update (o' := lstObj (its₁ ++ i2) n') hx ⟨_, _, m1, rfl, _, rfl⟩ ⟨_, rfl⟩ hs hg (r1.append r2), update_Le f1 fun o ho => ?_, Rest.heap⟩
    have := (R.N _ ho).1
    rw [g1] at this
    cases this
    rfl
theorem sAug (ok : CxOK C) (hoc : C.ownCells = true) {n : Nat} {x : Str} {op : Operator} {p : PE} {e : Expr} {p₁ pos : Pos} (hx : C.K.names[n]? = some x) (h1 : SoundE C p e) :
    SoundS C (.aug n op p) (.AugAssign (.Name x p₁) op e pos) := by
  intro σ Q s m ad news T q R
  obtain ⟨v, hv, q⟩ := q
  obtain ⟨x', cv, g1, g2, g3⟩ := R.M.loc n v hv
  rw [hx] at g1
  cases g1
  refine wpAny_AugAssign_Name (load_sound ok (List.mem_of_getElem? hx) R g2 ?_)
  refine h1.seq T q R fun cu s₁ u σ₁ m₁ ad₁ news₁ q₁ ru R₁ l₁ r₁ T₁ => ?_
  refine wpAny_mono (aug_sound ok R₁ (g3.le l₁) ru q₁) (fun cw s₂ hp => ?_) fun _ _ h => h
  obtain ⟨w, σ₂, m₂, ad₂, news₂, q₂, rw, R₂, l₂, r₂⟩ := hp
  refine store_sound ok hx (fun _ => hoc) R₂ rw fun h' tk m' news' R' l' => ?_
  exact ⟨.next, _, m', ad₂, news', q₂, trivial, R', (l₁.trans l₂).trans l', (r₁.trans r₂).trans Rest.mk'⟩

theorem sAppend (ok : CxOK C) {p q : PE} {x : Str} {e : Expr} {p₁ apos pos pos' : Pos} (hl : (apos.endLine == pos.line) = true) (hn : notStar e = true) (h1 : SoundE C p (.Name x p₁)) (h2 : SoundE C q e) :
    SoundS C (.append p q) (.Expr (.Call (.Attribute (.Name x p₁) "append" apos) [e] [] pos) pos') := by
  intro σ Q s m ad news T qq R
  have he : backTo pos (starEach [e] C.env) = [(false, eval e C.env)] := by cases e <;> first | rfl | cases hn
  refine wpAny_Expr_any (wpAny_Call_append rfl (by rw [he]; rfl) hl he (h1.seq T qq R fun cv s₁ v σ₁ m₁ ad₁ news₁ q₁ rv R₁ l₁ r₁ T₁ => ?_)) (by unfold interactive; rw [ok.kind]; rfl) rfl
  obtain ⟨i, ⟨rfl, oi⟩, q₁⟩ := q₁
  cases rv with | lst _ D hD =>
  obtain ⟨a₁, o₁, e1, ⟨m1, its₁, n₁, rfl⟩, f1⟩ := R₁.M.own i oi
  rw [hD] at e1; cases e1
  refine ⟨D, its₁.toArray, rfl, ⟨_, n₁, (R₁.N _ m1).1, rfl, rfl, rfl⟩, h2.seq T₁ q₁ R₁ fun cu s₂ u σ₂ m₂ ad₂ news₂ q₂ ru R₂ l₂ r₂ T₂ => ?_⟩
  obtain ⟨l, ⟨hl', oi', hz⟩, q₂⟩ := q₂
  obtain ⟨a₂, o₂, e2, ⟨m2, its₂, n₂, rfl⟩, f2⟩ := R₂.M.own i oi'
  have hD₂ := l₂.pre i D hD
  rw [hD₂] at e2; cases e2
  obtain ⟨i2, L2, r2⟩ := isList R₂ hl' hD₂
  have g2 := (R₂.N _ m2).1
  have same : its₂ = i2 := by
    obtain ⟨o, h3, _, n', h4⟩ := L2
    rw [g2] at h3
    cases h3
    simpa using (Data.seq.inj h4).1
  subst same
  refine append_at g2 (fun h' hs hg => ?_) (by rw [List.size_toArray, ← r2.length]; simp only [sizeLine]; omega)
  rw [show (its₂.toArray.push cu) = (its₂ ++ [cu]).toArray by simp] at hg
  refine ⟨.next, _, m₂, ad₂, _, q₂, trivial, R₂.update (o' := lstObj (its₂ ++ [cu]) (n₂ + 1)) hD₂ ⟨_, _, m2, rfl, _, rfl⟩ ⟨_, rfl⟩ hs hg (r2.append (.cons _ _ _ _ ru .nil)), (l₁.trans l₂).trans (update_Le f2 fun o ho => ?_), (r₁.trans r₂).trans Rest.heap⟩
  have := (R₂.N _ ho).1
  rw [g2] at this
  cases this
  rfl
theorem sRet (ok : CxOK C) {p : PE} {e : Expr} {pos : Pos} (h1 : SoundE C p e) : SoundS C (.ret p) (.Return (some e) pos) := by
  intro σ Q s m ad news T q R
  refine wpAny_Return_some (h1.seq T q R fun cv s₁ v σ₁ m₁ ad₁ news₁ q₁ rv R₁ l₁ r₁ T₁ => ?_)
  exact ⟨.ret v, σ₁, m₁, ad₁, news₁, q₁, rv, R₁, l₁, r₁⟩

theorem sIf (ok : CxOK C) {c : PE} {a b : PSs} {c' : Expr} {a' b' : List Stmt} {pos : Pos} (h1 : SoundT C c c') (h2 : SoundSs C a a') (h3 : SoundSs C b b') : SoundS C (.ifs c a b) (.If c' a' b' pos) := by
  intro σ Q s m ad news T q R
  refine wpAny_If (h1.seq T q (fun v σ' h => by obtain ⟨b, hb, _⟩ := truthW_iff.mp h; exact ⟨b, hb⟩) R fun t s₁ v σ₁ m₁ ad₁ news₁ ht q₁ R₁ l₁ r₁ T₁ => ?_)
  obtain ⟨t', hb, q₁⟩ := truthW_iff.mp q₁
  rw [ht] at hb
  cases hb
  cases t
  · exact wpAny_mono (h3 _ _ _ _ _ _ T₁ (q₁.2 rfl) R₁) (fun _ _ x => x.up l₁ r₁) fun _ _ x => x
  · exact wpAny_mono (h2 _ _ _ _ _ _ T₁ (q₁.1 rfl) R₁) (fun _ _ x => x.up l₁ r₁) fun _ _ x => x

theorem RelM.sub {σ : St} {m : Str → Option Value} {ad : List Addr} {news news' : Led} (R : RelM C σ m ad news) (k : ∀ a o, (a, o) ∈ news → good o → (a, o) ∈ news') : RelM C σ m ad news' := by
  have hl : ∀ o its, IsL o its → good o := fun o its h => .inr (.inl h.1)
  have hk : ∀ a o, Held C.base news a o → good o → Held C.base news' a o := fun a o x g => x.elim (fun y => .inl (k a o y g)) .inr
  have lt : LeT ad news ad news' := ⟨fun _ _ h => h, fun a o hm hc => k a o hm (hc.elim .inl fun h => .inr (.inr (.inl h)))⟩
  refine ⟨fun n v hv => ?_, R.len, fun i l hl' => ?_, fun i hi => ?_, R.inj, fun a ha => ?_, fun hc x hx => ?_⟩
  · obtain ⟨x, cv, e1, e2, e3⟩ := R.loc n v hv
    refine ⟨x, cv, e1, ?_, e3.leT lt⟩
    unfold VarAt at e2 ⊢
    split
    · rename_i hx
      rw [if_pos hx] at e2
      obtain ⟨c, o, f1, f2, f3⟩ := e2
      exact ⟨c, o, f1, hk _ _ f2 (.inr (.inr (.inr ⟨_, f3⟩))), f3⟩
    · rename_i hx
      rw [if_neg hx] at e2
      exact e2
  · obtain ⟨a, its, o, e1, e2, e3⟩ := R.obj i l hl'
    exact ⟨a, its, o, e1, ⟨hk _ _ e2.1 (hl _ _ e2.2), e2.2⟩, e3.leT lt⟩
  · obtain ⟨a, o, e1, e2, e3⟩ := R.own i hi
    obtain ⟨its, hi'⟩ := e2.2
    exact ⟨a, o, e1, ⟨k _ _ e2.1 (hl _ _ hi'.toL), its, hi'⟩, e3⟩
  · obtain ⟨o, e1, its, e2⟩ := R.fzin a ha
    exact ⟨o, hk _ _ e1 (hl _ _ e2), its, e2⟩
  · obtain ⟨c, o, e1, e2, e3⟩ := R.cells hc x hx
    exact ⟨c, o, e1, k _ _ e2 (.inr (.inr (.inr e3))), e3⟩

theorem for_rule {prog : Program} {w : World} {A : Around} {R : Result → Shared → Prop} {s : Shared} {target : Expr} {it : Value} {body : List Stmt} {env : Env} (I : Nat → Shared → Prop)
    (turn : ∀ n s, I n s → wpAny (model prog w) A (pyNext it) (fun r s₁ => match r with
      | none => R (.ok .next) s₁
      | some v => wpAny (model prog w) A (letOwnedTupleGo target it v) (fun _ s₁' => wpAny (model prog w) A (assign target env v) (fun _ s₂ => wpAny (model prog w) A (execs body env) (fun f s₃ => match f with
            | .next | .cont => ∃ m, m < n ∧ I m s₃
            | .brk => R (.ok .next) s₃
            | .ret v => R (.ok (.ret v)) s₃) NoE s₂) NoE s₁') NoE s₁) NoE s)
    (n : Nat) (h : I n s) : codeAny (model prog w) A (.forLoop target it body [] env) R s := by
  have no : ∀ {E : Value → Shared → Prop} (a : Value) (b : Shared), NoE a b → E a b := fun _ _ x => x.elim
  refine codeAny_forLoop_any I (fun n s hI => wpAny_mono (turn n s hI) (fun r s₁ h₁ => ?_) no) n h
  cases r with
  | none => exact wpAny_pure h₁
  | some v => exact wpAny_mono h₁ (fun _ _ h₂ => wpAny_mono h₂ (fun _ _ h₃ => wpAny_mono h₃ (fun _ _ x => x) no) no) no

theorem fsOf_pre {v : AV} {ad ad' fs : List Addr} (pre : ∀ (i : Nat) (a : Addr), ad[i]? = some a → ad'[i]? = some a) (hf : fsOf v ad fs) : fsOf v ad' fs := by
  rcases hf with ⟨j, ax, rfl, ha, rfl⟩ | ⟨hn, rfl⟩
  · exact .inl ⟨j, ax, rfl, pre _ _ ha, rfl⟩
  · exact .inr ⟨hn, rfl⟩
theorem fsOf_get {v : AV} {ad fs : List Addr} {objs : List (List AV)} (hlen : ad.length = objs.length) (hf : fsOf v ad fs) (j : Nat) (e : v = .lst j) : ∃ l, objs[j]? = some l := by
  subst e
  rcases hf with ⟨j', ax, e, ha, _⟩ | ⟨hn, _⟩
  · cases e
    have := (List.getElem?_eq_some_iff.mp ha).1
    rw [hlen] at this
    exact ⟨_, List.getElem?_eq_getElem this⟩
  · exact absurd rfl (hn j)
noncomputable def ForInv (C : Cx) (J : Nat → St → Prop) (St : Nat → Heap → Prop) (I : Addr) (fs ad : List Addr) (news : Led) (len : Nat) (s : Shared) (k : Nat) (s' : Shared) : Prop :=
  ∃ i σ' h tk m' ad' news', (k = len - i ∧ i ≤ len) ∧ (s' = { s with heap := h, toks := tk } ∧ 0 < tk) ∧ J i σ' ∧ Rel C σ' h m' ad' news' ∧ (∀ p ∈ news', p.1 ≠ I) ∧ St i h ∧ Le (fs ++ C.fz) ad news ad' news'
theorem for_next {s : Shared} {ad : List Addr} {news : Led} {items : List AV} {J : Nat → St → Prop} {St : Nat → Heap → Prop} {P : Nat → Value → Prop} {I : Addr} {fp fs : List Addr} {i : Nat} {ad' ad₃ : List Addr} {news' news₃ : Led} {oI : Obj} {h' h₃ : Heap} {tk₃ : Nat} {σ₃ : Mine.St} {m' m₃ : Str → Option Value}
    (it : Iter C items ad news I fp fs P St) (hlt : i < items.length) (hnI : ∀ p ∈ news, p.1 ≠ I) (l' : Le (fs ++ C.fz) ad news ad' news') (hst' : St (i + 1) h') (eI : h'.get? I = some oI) (hngI : ¬ good oI) (F' : Fr C.base C.env.locals h' m') (N' : News C.base C.env.locals h' news')
    (lT : Le (fs ++ C.fz) ad' news' ad₃ news₃) (hI₃ : (I, oI) ∈ news₃) (F₃ : Fr C.base C.env.locals h₃ m₃) (N₃ : News C.base C.env.locals h₃ news₃) (M₃ : RelM C σ₃ m₃ ad₃ news₃) (q₃ : J (i + 1) σ₃) (T : 0 < tk₃) :
    ∃ m, m < items.length - i ∧ ForInv C J St I fs ad news items.length s m { s with heap := h₃, toks := tk₃ } := by
  refine ⟨items.length - (i + 1), Nat.sub_lt_sub_left hlt (Nat.lt_succ_self i), i + 1, _, h₃, tk₃, m₃, ad₃, news₃.filter fun p => p.1 != I, ⟨rfl, hlt⟩, ⟨rfl, T⟩, q₃, ⟨F₃, fun p hp => N₃ p (List.mem_filter.mp hp).1, M₃.sub (sub_filter N₃ hI₃ hngI)⟩, ?_, ?_, ?_⟩
  · intro p hp
    simpa using (List.mem_filter.mp hp).2
  · refine it.W.frame _ _ _ hst' fun b hb o' e => ?_
    rcases it.fpIn b hb with rfl | ⟨o₂, hh, hk2⟩
    · rw [eI] at e
      cases e
      exact (N₃ _ hI₃).1
    · rcases hh with hh | hh
      · have g1 := l'.keep _ _ hh (hk2.elim (fun h => .inl (List.mem_append_left _ h)) .inr)
        have g2 := (N' _ g1).1
        rw [e] at g2
        cases g2
        exact (N₃ _ (lT.keep _ _ g1 (hk2.elim (fun h => .inl (List.mem_append_left _ h)) .inr))).1
      · have g2 := F'.keep _ _ hh
        rw [e] at g2
        cases g2
        exact F₃.keep _ _ hh
  · refine ⟨fun i a h => lT.pre i a (l'.pre i a h), fun a o' hm hk => List.mem_filter.mpr ⟨lT.keep _ _ (l'.keep _ _ hm hk) hk, ?_⟩⟩
    simp only [bne_iff_ne, ne_eq]
    exact hnI _ hm
theorem sFor (ok : CxOK C) (hoc : C.ownCells = true) {t : Tgt} {t' : Expr} {p : PE} {e : Expr} {ps : PSs} {body : List Stmt} {pos : Pos} (hm : mT C.K t t' = true) (hset : notSet e = true) (h1 : SoundE C p e)
    (hb : ∀ fz, SoundSs { C with fz := fz } ps body) : SoundS C (.for_ t p ps) (.For t' e body [] pos) := by
  intro σ Q s m ad news T q R
  have hs : ∀ v, foldedSetIterable e C.env v = pure v := by intro v; cases e <;> first | rfl | cases hset
  refine wpAny_For (h1.seq T q R fun cv s₁ v σ₁ m₁ ad₁ news₁ q₁ rv R₁ l₁ r₁ T₁ => ?_) hs
  refine iter_sound ok q₁ R₁ rv fun items io fp fs P St hk it hf hst hfp => ?_
  obtain ⟨J, j0, jt, jd⟩ := hk
  generalize hI : s₁.heap.objs.size = I at *
  have fresh : C.base.get? I = none := by
    cases e : C.base.get? I with
    | none => rfl
    | some o' => exact absurd (Heap.lt_size (R₁.F.keep _ _ e)) (by rw [hI]; exact Nat.lt_irrefl _)
  have hnI : ∀ p ∈ news₁, p.1 ≠ I := fun p hp e => by
    have := Heap.lt_size (R₁.N p hp).1
    rw [hI, e] at this
    exact Nat.lt_irrefl _ this
  have hIL : I ≠ C.env.locals := by
    obtain ⟨o, _, _, e, _⟩ := R₁.F.ns
    have := Heap.lt_size e
    rw [hI] at this
    exact Nat.ne_of_gt this
  have no : ∀ {E : Value → Shared → Prop} (a : Value) (b : Shared), NoE a b → E a b := fun _ _ x => x.elim
  refine for_rule (ForInv C J St I fs ad₁ news₁ items.length s₁) ?_ items.length ?_
  · rintro k s' ⟨i, σ', h, tk, m', ad', news', ⟨rfl, hi⟩, ⟨rfl, T⟩, hj, R', hn', hsti, l'⟩
    have lC : Le C.fz ad₁ news₁ ad' news' := ⟨l'.pre, fun a o hm hk => l'.keep a o hm (hk.elim (fun h => .inl (List.mem_append_right _ h)) .inr)⟩
    by_cases hlast : i = items.length
    · subst hlast
      refine it.W.done _ _ _ hsti fun h' tk' hk => ?_
      obtain ⟨F', N'⟩ := keep_it R'.F R'.N fresh hIL hn' hk
      exact ⟨.next, σ', m', ad', news', jd _ hj, trivial, ⟨F', N', R'.M⟩, l₁.trans lC, r₁.trans Rest.mk'⟩
    · have hlt : i < items.length := by (first | lia | omega)
      refine withT (C := C) T (it.W.item i _ _ _ hlt hsti fun cu h' tk' hP hst' hk T' => ?_)
      obtain ⟨F', N'⟩ := keep_it R'.F R'.N fresh hIL hn' hk
      have pI := it.plain _ _ hst'
      obtain ⟨oI, eI, hngI⟩ := it_bad pI
      have hkI := bad_keep hngI
      have hf' := fsOf_pre l'.pre hf
      have hl' := fsOf_get R'.M.len hf'
      have R1 : Rel { C with fz := fs ++ C.fz } { σ' with own := frozen v σ'.own } h' m' ad' ((I, oI) :: news') :=
        ⟨F', fun p hp => by
          rcases List.mem_cons.mp hp with rfl | hp
          · exact ⟨eI, hIL, fresh⟩
          · exact N' p hp, (RelM.freeze R'.M (cv := cv) hf' hl').mono fun _ h => .tail _ h⟩
      obtain ⟨u, hu, rvu⟩ := it.item i cu hP hlt
      have rvu' : RV C.base C.fa ad' ((I, oI) :: news') u cu := (rvu.le l').le (fz := []) (.all (fun _ _ h => h) fun _ h => .tail _ h)
      refine letOwned pI ?_
      refine withT (C := C) T' (bind_sound (C := { C with fz := fs ++ C.fz }) (s := { s₁ with heap := h', toks := tk' }) (ok.fz _) hm (may hoc _) (jt i u σ' hu hj) R1 rvu' fun σ₂ h₂ tk₂ m₂ news₂ q₂ R₂ l₂ T₂ => ?_)
      refine wpAny_mono (wpAny_toks (hb (fs ++ C.fz) σ₂ _ { s₁ with heap := h₂, toks := tk₂ } m₂ ad' news₂ T₂ q₂ R₂)) (fun f s₃ hp => ?_) (fun a b x => no a b x.2)
      obtain ⟨ht₃, fl, σ₃, m₃, ad₃, news₃, q₃, hfl, R₃, l₃, ⟨h₃, tk₃, rfl⟩⟩ := hp
      have lT : Le (fs ++ C.fz) ad' news' ad₃ news₃ := (Le.cons.trans l₂).trans l₃
      have lT' : Le C.fz ad' news' ad₃ news₃ := ⟨lT.pre, fun a o hm hk => lT.keep a o hm (hk.elim (fun h => .inl (List.mem_append_right _ h)) .inr)⟩
      have M₃ : RelM C { σ₃ with own := thawed v σ'.own σ₃.own } m₃ ad₃ news₃ := RelM.thaw R₃.M hf' R'.M lT
      cases fl with
      | ret u =>
        cases f with
        | ret cv => exact ⟨.ret u, _, m₃, ad₃, news₃, q₃, hfl, ⟨R₃.F, R₃.N, M₃⟩, (l₁.trans lC).trans lT', r₁.trans Rest.mk'⟩
        | _ => cases hfl
      | next =>
        cases f with
        | next =>
          have hI₃ : (I, oI) ∈ news₃ := l₃.keep _ _ (l₂.keep _ _ (.head _) (.inr hkI)) (.inr hkI)
          exact for_next it hlt hnI l' hst' eI hngI F' N' lT hI₃ R₃.F R₃.N M₃ q₃ (Nat.lt_of_lt_of_le T₂ ht₃)
        | _ => cases hfl
  · exact ⟨0, σ₁, _, s₁.toks, m₁, ad₁, news₁, ⟨rfl, Nat.zero_le _⟩, ⟨rfl, T₁⟩, j0, ⟨R₁.F.push _, R₁.N.grown fun _ _ e => Heap.get?_push_of_some _ e, R₁.M⟩, hnI, hst, Le.refl⟩

theorem sSsNil : SoundSs C .nil [] := by
  intro σ Q s m ad news T q R
  exact wpAny_execs_nil ⟨.next, σ, m, ad, news, q, trivial, R, Le.refl, Rest.refl⟩
theorem sSsCons {p : PS} {st : Stmt} {ps : PSs} {sts : List Stmt} (h1 : SoundS C p st) (h2 : SoundSs C ps sts) : SoundSs C (.cons p ps) (st :: sts) := by
  intro σ Q s m ad news T q R
  refine wpAny_execs_cons (wpAny_mono (wpAny_toks (h1 σ _ s m ad news T q R)) (fun f s₁ hp => ?_) fun _ _ x => x.2)
  obtain ⟨ht, fl, σ₁, m₁, ad₁, news₁, q₁, hf, R₁, l₁, r₁⟩ := hp
  cases fl with
  | next =>
    cases f with
    | next => exact wpAny_mono (h2 σ₁ _ s₁ m₁ ad₁ news₁ (Nat.lt_of_lt_of_le T ht) q₁ R₁) (fun _ _ x => x.up l₁ r₁) fun _ _ x => x
    | _ => cases hf
  | ret v =>
    cases f with
    | ret cv => exact ⟨.ret v, σ₁, m₁, ad₁, news₁, q₁, hf, R₁, l₁, r₁⟩
    | _ => cases hf

noncomputable def Wassign (K : Keys) (st : Stmt) (t : Tgt) (e : PE) : Prop := ∃ t' e' pos, st = .Assign [t'] e' pos ∧ (mT K t t' && ((rhsOk t' e' || swapOk K t' e') && mE K e e')) = true
theorem inv_assign {K : Keys} {st : Stmt} {t : Tgt} {e : PE} (h : mS K (.assign t e) st = true) : Wassign K st t e := by
  cases st <;> first | exact (Bool.false_ne_true h).elim | skip
  rename_i ts e' pos
  match ts, h with
  | [t'], h => exact ⟨_, _, _, rfl, h⟩
noncomputable def Waug (K : Keys) (st : Stmt) (n : Nat) (op : Operator) (e : PE) : Prop := ∃ x p₁ op' e' pos, st = .AugAssign (.Name x p₁) op' e' pos ∧ (K.names[n]? == some x && (op == op' && mE K e e')) = true
theorem inv_aug {K : Keys} {st : Stmt} {n : Nat} {op : Operator} {e : PE} (h : mS K (.aug n op e) st = true) : Waug K st n op e := by
  cases st <;> first | exact (Bool.false_ne_true h).elim | skip
  rename_i t' op' e' pos
  cases t' <;> first | exact (Bool.false_ne_true h).elim | exact ⟨_, _, _, _, _, rfl, h⟩
noncomputable def Wappend (K : Keys) (st : Stmt) (o e : PE) : Prop := ∃ x p₁ apos e' pos pos', st = .Expr (.Call (.Attribute (.Name x p₁) "append" apos) [e'] [] pos) pos' ∧ (apos.endLine == pos.line && (notStar e' && (mE K o (.Name x p₁) && mE K e e'))) = true
theorem inv_append {K : Keys} {st : Stmt} {o e : PE} (h : mS K (.append o e) st = true) : Wappend K st o e := by
  cases st <;> first | exact (Bool.false_ne_true h).elim | skip
  rename_i c pos'
  cases c <;> first | exact (Bool.false_ne_true h).elim | skip
  rename_i f es kws pos
  cases f <;> first | exact (Bool.false_ne_true h).elim | skip
  rename_i o' a apos
  match es, kws, h with
  | [e'], [], h =>
    obtain ⟨h1, h⟩ := and2 h
    obtain ⟨h2, h⟩ := and2 h
    have ea := eq_of_beq h2
    subst ea
    cases o' <;> first | exact (Bool.false_ne_true h1).elim | exact ⟨_, _, _, _, _, _, rfl, h⟩
noncomputable def Wifs (K : Keys) (st : Stmt) (c : PE) (a b : PSs) : Prop := ∃ c' a' b' pos, st = .If c' a' b' pos ∧ (mE K c c' && (mSs K a a' && mSs K b b')) = true
theorem inv_ifs {K : Keys} {st : Stmt} {c : PE} {a b : PSs} (h : mS K (.ifs c a b) st = true) : Wifs K st c a b := by
  cases st <;> first | exact (Bool.false_ne_true h).elim | exact ⟨_, _, _, _, rfl, h⟩
noncomputable def Wfor (K : Keys) (st : Stmt) (t : Tgt) (it : PE) (body : PSs) : Prop := ∃ t' it' body' pos, st = .For t' it' body' [] pos ∧ (mT K t t' && (notSet it' && (mE K it it' && mSs K body body'))) = true
theorem inv_for {K : Keys} {st : Stmt} {t : Tgt} {it : PE} {body : PSs} (h : mS K (.for_ t it body) st = true) : Wfor K st t it body := by
  cases st <;> first | exact (Bool.false_ne_true h).elim | skip
  rename_i t' it' body' els pos
  cases els with
  | cons _ _ => exact (Bool.false_ne_true h).elim
  | nil => exact ⟨_, _, _, _, rfl, h⟩
noncomputable def Wret (K : Keys) (st : Stmt) (e : PE) : Prop := ∃ e' pos, st = .Return (some e') pos ∧ mE K e e' = true
theorem inv_ret {K : Keys} {st : Stmt} {e : PE} (h : mS K (.ret e) st = true) : Wret K st e := by
  cases st <;> first | exact (Bool.false_ne_true h).elim | skip
  rename_i v pos
  cases v with
  | none => exact (Bool.false_ne_true h).elim
  | some e' => exact ⟨_, _, rfl, h⟩
noncomputable def Wname (K : Keys) (n : Nat) (t' : Expr) : Prop := ∃ x p₁, t' = .Name x p₁ ∧ (K.names[n]? == some x) = true
theorem inv_tn {K : Keys} {n : Nat} {t' : Expr} (h : mT K (.name n) t' = true) : Wname K n t' := by
  cases t' <;> first | exact (Bool.false_ne_true h).elim | exact ⟨_, _, rfl, h⟩
noncomputable def Wtup (K : Keys) (ns : List Nat) (t' : Expr) : Prop := ∃ es k p₁, t' = .Tuple es k p₁ ∧ mT K (.tup ns) (.Tuple es k p₁) = true
theorem inv_tt {K : Keys} {ns : List Nat} {t' : Expr} (h : mT K (.tup ns) t' = true) : Wtup K ns t' := by
  cases t' <;> first | exact (Bool.false_ne_true h).elim | exact ⟨_, _, _, rfl, h⟩
mutual
theorem soundS : ∀ (p : PS) (C : Cx) (ok : CxOK C) (hoc : C.ownCells = true) (st : Stmt), mS C.K p st = true → SoundS C p st
  | .assign t e, C, ok, hoc, st, h => by
    obtain ⟨t', e', pos, rfl, h⟩ := inv_assign h
    obtain ⟨h1, h⟩ := and2 h
    obtain ⟨h2, h3⟩ := and2 h
    cases t with
    | name n =>
      obtain ⟨x, p₁, rfl, hx⟩ := inv_tn h1
      by_cases hr : rhsOk (.Name x p₁) e' = true
      · exact sAssignN ok hoc (eq_of_beq hx) hr (sound e C ok _ h3).1
      · rw [Bool.not_eq_true] at hr
        rw [hr, Bool.false_or] at h2
        exact (Bool.false_ne_true h2).elim
    | tup ns =>
      obtain ⟨es, k, p₁, rfl, hx⟩ := inv_tt h1
      have hr : rhsOk (.Tuple es k p₁) e' = true := by
        have : swapOk C.K (.Tuple es k p₁) e' = false := rfl
        rw [this, Bool.or_false] at h2
        exact h2
      exact sAssignT ok hoc hx hr (sound e C ok _ h3).1
  | .aug n op e, C, ok, hoc, st, h => by
    obtain ⟨x, p₁, op', e', pos, rfl, h⟩ := inv_aug h
    obtain ⟨hx, h⟩ := and2 h
    obtain ⟨ho, he⟩ := and2 h
    have hs := (sound e C ok _ he).1
    have ho' := eq_of_beq ho
    subst ho'
    exact sAug ok hoc (eq_of_beq hx) hs
  | .append o e, C, ok, hoc, st, h => by
    obtain ⟨x, p₁, apos, e', pos, pos', rfl, h⟩ := inv_append h
    obtain ⟨hl, h⟩ := and2 h
    obtain ⟨hn, h⟩ := and2 h
    obtain ⟨h1, h2⟩ := and2 h
    exact sAppend ok hl hn (sound o C ok _ h1).1 (sound e C ok _ h2).1
  | .ifs c a b, C, ok, hoc, st, h => by
    obtain ⟨c', a', b', pos, rfl, h⟩ := inv_ifs h
    obtain ⟨h1, h⟩ := and2 h
    obtain ⟨h2, h3⟩ := and2 h
    exact sIf ok (sound c C ok _ h1).2 (soundSs a C ok hoc _ h2) (soundSs b C ok hoc _ h3)
  | .for_ t it body, C, ok, hoc, st, h => by
    obtain ⟨t', it', body', pos, rfl, h⟩ := inv_for h
    obtain ⟨h1, h⟩ := and2 h
    obtain ⟨h2, h⟩ := and2 h
    obtain ⟨h3, h4⟩ := and2 h
    exact sFor ok hoc h1 h2 (sound it C ok _ h3).1 fun fz => soundSs body { C with fz := fz } (ok.fz fz) hoc _ h4
  | .ret e, C, ok, hoc, st, h => by
    obtain ⟨e', pos, rfl, h⟩ := inv_ret h
    exact sRet ok (sound e C ok _ h).1
theorem soundSs : ∀ (ps : PSs) (C : Cx) (ok : CxOK C) (hoc : C.ownCells = true) (sts : List Stmt), mSs C.K ps sts = true → SoundSs C ps sts
  | .nil, C, ok, hoc, [], _ => sSsNil
  | .nil, _, _, _, _ :: _, h => by cases h
  | .cons _ _, _, _, _, [], h => by cases h
  | .cons p ps, C, ok, hoc, st :: sts, h => by
    exact sSsCons (soundS p C ok hoc st (and2 h).1) (soundSs ps C ok hoc sts (and2 h).2)
end
end
end Mine
namespace Mine
open PySem PySem.W PySem.Calls PyProof.Rows PyProof.V PySem.Spec

structure PF where
  prog : Program
  w : World
  p : Program
  loose : List Str
  mean : ExcName → Option Value
  mg : Str → Option Value
  mb : Str → Option Value

structure FrameOf (P : PF) (C : Cx) (room : Nat) : Prop where
  prog : C.prog = P.prog
  w : C.w = P.w
  mg : C.mg = P.mg
  mb : C.mb = P.mb
  top : Top P.p P.loose P.mean P.mg P.mb C.base
  nb : NoneBooked C.base
  depth : C.A.depth + room < recursionLimit
  hh : C.A.handled = none
  units : C.A.units + 3 * room + 64 < cLine
  keep : ∀ b o, C.fa.top.get? b = some o → C.base.get? b = some o
  eg : C.env.globals = mainGlobals
  eb : C.env.builtins = builtinsNs
  kind : C.env.scope.kind = .function

theorem FrameOf.fz {P : PF} {C : Cx} {room : Nat} (Fo : FrameOf P C room) (f : List Addr) : FrameOf P { C with fz := f } room :=
  ⟨Fo.prog, Fo.w, Fo.mg, Fo.mb, Fo.top, Fo.nb, Fo.depth, Fo.hh, Fo.units, Fo.keep, Fo.eg, Fo.eb, Fo.kind⟩
structure GOK (P : PF) (fa : FA) (globs : List Str) (gval : Nat → Option AV) : Prop where
  ok : ∀ (j : Nat) (x : Str) (v : AV), globs[j]? = some x → gval j = some v → (x == ("__debug__" : Str)) = false ∧ ∃ cv, GV fa v cv ∧ (P.mg x = some cv ∨ (P.mg x = none ∧ P.mb x = some cv))

structure CellsOk (K : Keys) (names : List (Str × NameKind)) : Prop where
  at_ : ∀ x ∈ K.cells, x ∈ (cellsFrom 0 names []).map (·.1)
  nd : ((cellsFrom 0 names []).map (·.1)).Nodup

theorem mem_lookup {α : Type} {x : Str} : ∀ {l : List (Str × α)}, x ∈ l.map (·.1) → ∃ c, l.lookup x = some c
  | [], h => by cases h
  | (n, c) :: r, h => by
    simp only [List.lookup_cons]
    cases hx : x == n with
    | true => exact ⟨c, rfl⟩
    | false =>
      rcases List.mem_cons.mp h with h | h
      · rw [h] at hx; simp at hx
      · exact mem_lookup h

theorem bindL_eq (kindOf : Str → Option NameKind) : ∀ (binds : List (Str × Value)) (m : Str → Option Value) (x : Str), (∀ p ∈ binds, kindOf p.1 = some .local) → ∀ v, binds.reverse.lookup x = some v → bindL kindOf binds m x = some v := by
  have key : ∀ (binds : List (Str × Value)) (m : Str → Option Value) (x : Str), (∀ p ∈ binds, kindOf p.1 = some .local) → bindL kindOf binds m x = (binds.reverse.lookup x).or (m x) := by
    intro binds
    induction binds with
    | nil => intro m x _; simp [bindL]
    | cons p r ih =>
      obtain ⟨n, v⟩ := p
      intro m x h
      have hn : kindOf n = some .local := h (n, v) (.head _)
      simp only [bindL, hn, if_true]
      rw [ih _ _ fun p hp => h p (.tail _ hp)]
      simp only [List.reverse_cons, List.lookup_append]
      cases (r.reverse.lookup x) with
      | some u => simp
      | none =>
        by_cases hx : x = n
        · subst hx; simp [List.lookup_cons]
        · have : (x == n) = false := by simpa using hx
          simp [List.lookup_cons, hx, this]
  intro binds m x h v hv
  rw [key binds m x h, hv]
  rfl

theorem zip_lookup {names : List Str} {vals : List Value} (nd : names.Nodup) {n : Nat} {x : Str} {v : Value} (hx : names[n]? = some x) (hv : vals[n]? = some v) : (names.zip vals).reverse.lookup x = some v := by
  have hz : (names.zip vals)[n]? = some (x, v) := by rw [List.getElem?_zip_eq_some]; exact ⟨hx, hv⟩
  have hn := (List.getElem?_eq_some_iff.mp hz).1
  have hsplit : names.zip vals = (names.zip vals).take n ++ (x, v) :: (names.zip vals).drop (n + 1) := by
    have h1 := List.take_append_drop n (names.zip vals)
    rw [List.drop_eq_getElem_cons hn] at h1
    rw [(List.getElem?_eq_some_iff.mp hz).2] at h1
    exact h1.symm
  rw [hsplit, List.reverse_append, List.reverse_cons, List.append_assoc]
  refine List.lookup_eq_some_iff.mpr ⟨_, _, rfl, fun p hp => ?_⟩
  have hp' := List.mem_reverse.mp hp
  obtain ⟨k, hk⟩ := List.mem_iff_getElem?.mp hp'
  rw [List.getElem?_drop] at hk
  obtain ⟨h1, h2⟩ := List.getElem?_zip_eq_some.mp (show (names.zip vals)[n + 1 + k]? = some (p.1, p.2) from hk)
  simp only [bne_iff_ne, ne_eq]
  intro e
  rw [← e] at h1
  have := nodup_inj nd h1 hx
  omega

theorem cells_mem {cm : Str → Option Value} : ∀ {cs : List (Str × Addr)} {cells : List (Addr × Obj)}, CellsAre cm cs cells → ∀ n c, (n, c) ∈ cs → ∃ o, (c, o) ∈ cells ∧ o.data = .cell (cm n)
  | _, _, .nil, n, c, h => by cases h
  | _, _, .cons hd r, n, c, h => by
    rcases List.mem_cons.mp h with e | h
    · cases e
      exact ⟨_, .head _, hd⟩
    · obtain ⟨o, h1, h2⟩ := cells_mem r n c h
      exact ⟨o, .tail _ h1, h2⟩

noncomputable def fnW (g : Nat → Option AV) (fns : Fns) (np : Nat) (ps : PSs) (args : List AV) (objs : List (List AV)) (Q : AV → List (List AV) → Prop) : Prop :=
  args.length = np ∧ wpSs g fns ps ⟨fun i => args[i]?, objs, []⟩ fun fl σ => match fl with | .ret v => Q v σ.objs | .next => Q .none σ.objs

structure DefIs (P : PF) (d : DefRec) (np : Nat) (K : Keys) (ps : PSs) : Prop where
  mem : d ∈ recsOf P.p
  body : mSs K ps d.body = true
  nodup : K.names.Nodup
  params : ∀ (vals : List Value), vals.length = np → ∀ pm cdv doc, bindArgs (docDef d.name d.params d.body d.scope pm cdv doc) ⟨vals, []⟩ = pure ((K.names.take np).zip vals)
  hnp : np ≤ K.names.length
  plain : ∀ x ∈ K.names.take np, x ∉ K.cells
  locs : ∀ x ∈ K.names, (x == ("__debug__" : Str)) = false ∧ (x ∉ K.cells → d.scope.names.lookup x = some .local) ∧ (x ∈ K.cells → d.scope.names.lookup x = some .cell)
  globs : ∀ x ∈ K.globs, x ∉ K.far → d.scope.names.lookup x = some .globalImplicit
  kind : d.scope.kind = .function
  gen : d.scope.isGenerator = false
  co : d.scope.isCoroutine = false
  cells : CellsOk K d.scope.names

theorem cells_apart : ∀ (names : List (Str × NameKind)) (n : Nat) (acc : List (Str × Addr)), (∀ p ∈ acc, p.2 < n) → acc.Pairwise (fun x y => x.2 ≠ y.2) → (cellsFrom n names acc).Pairwise fun x y => x.2 ≠ y.2
  | [], _, _, _, h => h
  | (name, kind) :: r, n, acc, hl, h => by
    unfold cellsFrom
    split
    · refine cells_apart r (n + 1) _ (fun p hp => ?_) (List.Pairwise.cons (fun p hp => Nat.ne_of_gt (hl p hp)) h)
      rcases List.mem_cons.mp hp with rfl | hp
      · exact Nat.lt_succ_self _
      · exact Nat.lt_succ_of_lt (hl p hp)
    · exact cells_apart r n acc hl h
theorem frame_ok {P : PF} {C : Cx} {room : Nat} (Fo : FrameOf P C room) (G : GOK P C.fa C.K.globs C.gval) (nd : C.K.names.Nodup)
    (locs : ∀ x ∈ C.K.names, (x == ("__debug__" : Str)) = false ∧ (x ∉ C.K.cells → C.env.kindOf x = some .local) ∧ (x ∈ C.K.cells → C.env.kindOf x = some .cell))
    (globs : ∀ x ∈ C.K.globs, x ∉ C.K.far → C.env.kindOf x = some .globalImplicit) (hcells : ∃ b names, C.env.cells = cellsFrom b names [] ∧ CellsOk C.K names)
    (call : ∀ (fz : List Addr) (k : Nat) (args : List AV) (cargs : List Value) (σ : St) (Q : AV → St → Prop) (s : Shared) (m : Str → Option Value) (ad : List Addr) (news : Led),
      0 < s.toks → Rel { C with fz := fz } σ s.heap m ad news → RVs C.base C.fa ad news args cargs → C.fns k args σ.objs (fun v objs => Q v { σ with objs := objs }) → Wp C (call (.ref (C.fa.addr k)) cargs) (PostV { C with fz := fz } Q s ad news) s) : CxOK C where
  hh := Fo.hh
  htop := Fo.keep
  nb := Fo.nb
  units := by have := Fo.units; omega
  kind := Fo.kind
  nodup := nd
  locs := locs
  cellinj := fun x hx y hy c h1 h2 => by
    obtain ⟨b, names, e, hc⟩ := hcells
    rw [e] at h1 h2
    exact name_of_addr (cells_apart names b [] (fun _ hm => (nomatch hm)) List.Pairwise.nil) (mem_of_lookup h1) (mem_of_lookup h2)
  cellat := fun x hx => by
    obtain ⟨b, names, e, hc⟩ := hcells
    rw [e]
    refine mem_lookup ?_
    rw [cellsFrom_names names b 0 [] [] rfl]
    exact hc.at_ x hx
  g := by rw [Fo.mg]; exact Fo.top.g
  b := by rw [Fo.mb]; exact Fo.top.b
  eg := Fo.eg
  eb := Fo.eb
  globs := fun j x v hj hv => by
    obtain ⟨h1, cv, h2, h3⟩ := G.ok j x v hj hv
    refine ⟨⟨h1, fun hf => globs x (List.mem_of_getElem? hj) hf⟩, cv, h2, ?_⟩
    rw [Fo.mg, Fo.mb]
    exact h3
  call := call

theorem call_cellsT {prog : Program} {w : World} {A : Around} {R : Result → Shared → Prop} {s : Shared} {name : Str} {params : Arguments} {body : List Stmt} {scope : Scope}
    {pm cd doc : Value} {a : Addr} {o : Obj} {args : List Value} {binds : List (Str × Value)} (T : 0 < s.toks)
    (hroom : A.depth < recursionLimit) (ho : s.heap.get? a = some o) (hdata : o.data = .func (Calls.docDef name params body scope pm cd doc)) (hlim : s.heap.NoLimit) (hcd : s.heap.CodeRec cd name)
    (hbind : bindArgs (Calls.docDef name params body scope pm cd doc) ⟨args, []⟩ = pure binds)
    (hkind : ∀ x ∈ binds, scope.names.lookup x.1 = some .local ∨ (scope.names.lookup x.1 = some .cell ∧ ((cellsFrom (s.heap.objs.size + 1) scope.names []).lookup x.1).isSome = true))
    (hnd : ((cellsFrom 0 scope.names []).map (·.1)).Nodup)
    (h : ∀ h₁ tk cells, 0 < tk → Fr s.heap s.heap.objs.size h₁ (bindL (envOfC name scope s.heap.objs.size a cd).kindOf binds fun _ => none) → News s.heap s.heap.objs.size h₁ cells →
      CellsAre (bindC (envOfC name scope s.heap.objs.size a cd).kindOf binds fun _ => none) (cellsFrom (s.heap.objs.size + 1) scope.names []) cells →
      wpAny (model prog w) (A.deeper (envOfC name scope s.heap.objs.size a cd)) (execs body (envOfC name scope s.heap.objs.size a cd))
        (fun f s' => R (.ok (.ret (match f with | .ret v => v | _ => .none))) s') (fun _ _ => False) { s with heap := h₁, toks := tk })
    (hco : scope.isCoroutine = false) (hgen : scope.isGenerator = false) (hk : scope.kind = .function) :
    codeAny (model prog w) A (.call (.ref a) ⟨args, []⟩) R s := by
  refine codeAny_call_function hroom ho hdata hco hgen rfl hcd ?_
  rw [hbind]
  refine wpAny_pure (wpAny_with_toks (n := 1) T (wpAny_newFunctionEnv_cells hk hkind fun env he s' X T' => ?_))
  subst he
  obtain ⟨h₁, tk, rfl⟩ := X.toInCall.same
  refine ⟨hlim.keeps X.toInCall.keep, codeAny_func ?_⟩
  obtain ⟨cells, N, Y⟩ := Cl.news (h₀ := s.heap) (L := s.heap.objs.size) (Nat.le_refl _) fun n c hm => ⟨X.cell n c (lookup_of_mem_nodup (cellsFrom_names scope.names 0 (s.heap.objs.size + 1) [] [] rfl ▸ hnd) hm), X.above n c hm⟩
  exact wpAny_mono (h h₁ tk cells T' ⟨X.toInCall.ns, X.toInCall.keep, X.toInCall.fresh⟩ N Y) (fun _ _ x => x) (fun _ _ x => x.elim)

theorem call_def {P : PF} {C : Cx} {room : Nat} {d : DefRec} {np : Nat} {K : Keys} {ps : PSs} {gval : Nat → Option AV} {fns : Fns} {k : Nat} (Fo : FrameOf P C (room + 1)) (D : DefIs P d np K ps)
    (hfa : P.mg d.name = some (.ref (C.fa.addr k)))
    (hok : ∀ C' : Cx, C'.K = K → C'.gval = gval → C'.fns = fns → C'.fa = C.fa → FrameOf P C' room → (∀ x, C'.env.kindOf x = d.scope.names.lookup x) → (∃ b names, C'.env.cells = cellsFrom b names [] ∧ CellsOk C'.K names) → CxOK C') :
    ∀ (args : List AV) (cargs : List Value) (σ : St) (Q : AV → St → Prop) (s : Shared) (m : Str → Option Value) (ad : List Addr) (news : Led),
    0 < s.toks → Rel C σ s.heap m ad news → RVs C.base C.fa ad news args cargs → fnW gval fns np ps args σ.objs (fun v objs => Q v { σ with objs := objs }) → Wp C (call (.ref (C.fa.addr k)) cargs) (PostV C Q s ad news) s := by
  intro args cargs σ Q s m ad news T R ra q
  obtain ⟨f, o, pm, code, doc, h1, h2, h3, h4⟩ := Fo.top.fn d D.mem
  rw [hfa] at h1
  cases h1
  have hlen : cargs.length = np := by rw [← ra.length]; exact q.1
  have hcellN : ∀ b : Nat, ((cellsFrom b d.scope.names []).map (·.1)) = ((cellsFrom 0 d.scope.names []).map (·.1)) := fun b => cellsFrom_names d.scope.names b 0 [] [] rfl
  have hloc : ∀ x ∈ (K.names.take np).zip cargs, d.scope.names.lookup x.1 = some .local := fun x hx => by
    have hm := (List.of_mem_zip hx).1
    exact (D.locs x.1 (List.mem_of_mem_take hm)).2.1 (D.plain _ hm)
  refine wpAny_call (call_cellsT T (by have := Fo.depth; (first | lia | omega)) (R.F.keep _ _ h2) h3 (Fo.top.nolimit.keeps R.F.keep) (h4.keeps R.F.keep) (D.params cargs hlen pm code doc) (fun x hx => .inl (hloc x hx)) D.cells.nd (fun h₁ tk cells T₁ F₁ N₁ X₁ => ?_) D.co D.gen D.kind)
  let env' := envOfC d.name d.scope s.heap.objs.size (C.fa.addr k) code
  let C' : Cx := { prog := C.prog, w := C.w, A := C.A.deeper env', env := env', base := s.heap, fa := C.fa, mg := C.mg, mb := C.mb, K := K, gval := gval, fns := fns, fz := [], ownCells := true }
  have Fo' : FrameOf P C' room := by
    refine ⟨Fo.prog, Fo.w, Fo.mg, Fo.mb, Fo.top.keeps R.F.keep, noneKeeps Fo.nb R.F.keep, ?_, Fo.hh, ?_, fun b o h => R.F.keep _ _ (Fo.keep _ _ h), rfl, rfl, D.kind⟩
    · have := Fo.depth
      show C.A.depth + 1 + room < recursionLimit
      (first | lia | omega)
    · have := Fo.units
      show C.A.units + 3 + 3 * room + 64 < cLine
      (first | lia | omega)
  have ok' := hok C' rfl rfl rfl rfl Fo' (fun x => rfl) ⟨_, _, rfl, D.cells⟩
  have M' : RelM C' ⟨fun i => args[i]?, σ.objs, []⟩ (bindL env'.kindOf ((K.names.take np).zip cargs) fun _ => none) ad cells := by
    refine ⟨fun n v hv => ?_, R.M.len, fun i l hl => ?_, fun i hi => (nomatch hi), R.M.inj, fun a ha => (nomatch ha), fun _ x hx => ?_⟩
    · obtain ⟨cv, hcv, rv⟩ := (down_RVs R (led := cells) ra).get n v hv
      have hn : n < np := by rw [← hlen]; exact (List.getElem?_eq_some_iff.mp hcv).1
      have hx : K.names[n]? = some (K.names[n]'(by have := D.hnp; (first | lia | omega))) := List.getElem?_eq_getElem _
      have hx' : (K.names.take np)[n]? = some (K.names[n]'(by have := D.hnp; (first | lia | omega))) := by rw [List.getElem?_take_of_lt hn]; exact hx
      refine ⟨_, cv, hx, ?_, rv⟩
      unfold VarAt
      rw [if_neg (D.plain _ (List.mem_of_getElem? hx'))]
      exact bindL_eq _ _ _ _ hloc _ (zip_lookup (nd := List.Sublist.nodup (List.take_sublist _ _) D.nodup) (n := n) hx' hcv)
    · obtain ⟨b, items, o', ha, hd, rs⟩ := R.M.obj i l hl
      exact ⟨b, items, o', ha, ⟨.inr (hd.1.get R), hd.2⟩, down_RVs R rs⟩
    · have hx : x ∈ K.cells := hx
      obtain ⟨c, hc⟩ := mem_lookup (x := x) (l := cellsFrom (s.heap.objs.size + 1) d.scope.names []) (by rw [hcellN]; exact D.cells.at_ x hx)
      obtain ⟨o', ho', hd'⟩ := cells_mem X₁ x c (mem_of_lookup hc)
      exact ⟨c, o', hc, ho', _, hd'⟩
  refine wpAny_mono (soundSs ps C' ok' rfl d.body D.body _ _ { s with heap := h₁, toks := tk } _ _ _ T₁ q.2 ⟨F₁, N₁, M'⟩) (fun fl s' hp => ?_) (fun _ _ x => x.elim)
  obtain ⟨fl', σ₁, m₁, ad₁, news₁, q₁, hf, R₁, l₁, r₁⟩ := hp
  have R₂ := up_Rel R R₁ rfl rfl l₁.pre
  have rest : Rest s s' := Rest.mk'.trans r₁
  cases fl' with
  | ret v =>
    cases fl with
    | ret cv => exact ⟨v, _, m, ad₁, _, q₁, up_RV R hf, R₂, up_Le R l₁.pre, rest⟩
    | _ => cases hf
  | next =>
    cases fl with
    | next => exact ⟨.none, _, m, ad₁, _, q₁, .none, R₂, up_Le R l₁.pre, rest⟩
    | _ => cases hf

theorem intsRV {base : Heap} {fa : FA} {ad : List Addr} {news : Led} : ∀ {vs : List Value} {ns : List Int}, IntsAre vs ns → RVs base fa ad news (ns.map .int) vs
  | _, _, .nil => .nil
  | _, _, .cons n t h => .cons _ _ _ _ (.int n t) (intsRV h)

theorem law_core {prog : Program} {w : World} {p : Program} {loose : List Str} {mean : ExcName → Option Value} {mg mb : Str → Option Value} {h₀ : Heap} {env : Env} {L l : Addr} {x₀ : Str} {vs : List Value} {ns : List Int} {m₀ : Str → Option Value} {cells : Led}
    {s : Shared} {Q : Flow → Shared → Prop} {E : Value → Shared → Prop} {body : List Stmt} {K : Keys} {gval : Nat → Option AV} {fns : Fns} {fa : FA}
    (T : Top p loose mean mg mb h₀) (nb : NoneBooked h₀) (F : Fr h₀ L s.heap m₀) (N : News h₀ L s.heap cells) (hL : h₀.IsList l vs.toArray) (hI : IntsAre vs ns)
    (hm : m₀ x₀ = some (.ref l)) (hx : x₀ ∉ K.cells) (hcell : ∀ x ∈ K.cells, ∃ c o, env.cells.lookup x = some c ∧ (c, o) ∈ cells ∧ isCellObj o)
    (hn0 : K.names[0]? = some x₀) (hcs : env.scope.kind = .function) (heL : env.locals = L) (heg : env.globals = mainGlobals) (heb : env.builtins = builtinsNs) (hfa : fa.top = h₀)
    (hok : ∀ C : Cx, C.K = K → C.gval = gval → C.fns = fns → C.fa = fa → C.env = env → FrameOf ⟨prog, w, p, loose, mean, mg, mb⟩ C 8 → CxOK C)
    (run : ∀ C : Cx, CxOK C → C.prog = prog → C.w = w → C.A = callerA.deeper env → C.env = env → C.K = K → C.gval = gval → C.fns = fns → C.ownCells = true → Rel C ⟨fun i => if i = 0 then some (.lst 0) else none, [ns.map .int], []⟩ s.heap m₀ [l] cells → Wp C (execs body env) (PostS C (fun fl _ => fl = .ret (.bool true)) s [l] cells) s)
    (hQ : ∀ h' tk m', Fr h₀ L h' m' → Q (.ret (.bool true)) { s with heap := h', toks := tk }) :
    wpAny (model prog w) (callerA.deeper env) (execs body env) Q E s := by
  subst heL
  let C : Cx := { prog := prog, w := w, A := callerA.deeper env, env := env, base := h₀, fa := fa, mg := mg, mb := mb, K := K, gval := gval, fns := fns, fz := [], ownCells := true }
  have Fo : FrameOf ⟨prog, w, p, loose, mean, mg, mb⟩ C 8 := by
    refine ⟨rfl, rfl, rfl, rfl, T, nb, ?_, rfl, ?_, fun b o h => by subst hfa; exact h, heg, heb, hcs⟩
    · show callerA.depth + 1 + 8 < recursionLimit
      decide
    · show callerA.units + 3 + 3 * 8 + 64 < cLine
      decide
  have ok := hok C rfl rfl rfl rfl rfl Fo
  have M : RelM C ⟨fun i => if i = 0 then some (.lst 0) else none, [ns.map .int], []⟩ m₀ [l] cells := by
    refine ⟨fun n v hv => ?_, rfl, fun i k hk => ?_, (fun i hi => nomatch hi), fun i j a hi hj => ?_, fun a ha => (nomatch ha), fun _ => hcell⟩
    · simp only at hv
      split at hv
      · rename_i hn
        cases hv
        subst hn
        exact ⟨x₀, .ref l, hn0, by unfold VarAt; rw [if_neg hx]; exact hm, .lst 0 l rfl⟩
      · cases hv
    · have : i = 0 := by
        have := (List.getElem?_eq_some_iff.mp hk).1
        simp at this
        omega
      subst this
      simp only [List.getElem?_cons_zero, Option.some.injEq] at hk
      subst hk
      obtain ⟨o, ho, hc, n, hd⟩ := hL
      exact ⟨l, vs, o, rfl, ⟨.inr ho, hc, n, hd⟩, intsRV hI⟩
    · have h1 := (List.getElem?_eq_some_iff.mp hi).1
      have h2 := (List.getElem?_eq_some_iff.mp hj).1
      simp at h1 h2
      omega
  refine wpAny_mono (run C ok rfl rfl rfl rfl rfl rfl rfl rfl ⟨F, N, M⟩) (fun f s' hp => ?_) (fun _ _ x => x.elim)
  obtain ⟨fl, σ', m', ad', news', rfl, hf, R', _, ⟨h', tk, rfl⟩⟩ := hp
  cases f with
  | ret cv => cases hf; exact hQ h' tk m' R'.F
  | _ => cases hf
theorem first63 {C : Cx} {cap : Int} {σ : St} {s : Shared} {m : Str → Option Value} {ad : List Addr} {news : Led} {Q : Fl → St → Prop} (ok : CxOK C) (hoc : C.ownCells = true) {x₀ : Str} {kk : Nat} {p₁ p₂ p₃ p₄ p₅ pos : Pos} {body : List Stmt} {ps : PSs} (hn0 : C.K.names[0]? = some x₀)
    (hb : mSs C.K ps body = true) (q : wpSs C.gval C.fns (.cons (.assign (.name 0) (.slTo (.loc 0) (.const (.int cap)))) ps) σ Q) (R : Rel C σ s.heap m ad news) :
    Wp C (execs (.Assign [.Name x₀ p₁] (.Subscript (.Name x₀ p₂) (.Slice none (some (.Constant (.int cap) kk p₃)) none p₄) p₅) pos :: body) C.env) (PostS C Q s ad news) s := by
  obtain ⟨v, hv, k, hk, q⟩ := q
  cases hk
  obtain ⟨x', cv, g1, g2, g3⟩ := R.M.loc 0 v hv
  rw [hn0] at g1
  cases g1
  have hx := List.mem_of_getElem? hn0
  refine wpAny_execs_cons (wpAny_Assign_Name (Subscript_ (wpAny_Name (load_sound ok hx R g2 (wpAny_Slice (evalPart_none_step (evalPart_some_step (wpAny_Constant_int (evalPart_none_step ?_)))))) (ok.locs x₀ hx).1)) rfl)
  refine wpAny_mono (wpAny_toks (slice_sound (value := none) (s := { s with toks := s.toks + 1 }) R g3 .none (.int _ _) q)) (fun cu s₁ hp => ?_) fun _ _ x => x.2
  obtain ⟨ht, u, σ₁, m₁, ad₁, news₁, q₁, ru, R₁, l₁, r₁⟩ := hp
  have T₁ : 0 < s₁.toks := Nat.lt_of_lt_of_le (Nat.succ_pos _) ht
  refine withT (C := C) T₁ (store_sound ok hn0 (fun _ => hoc) R₁ ru fun h' tk m' news' R' l' T' => ?_)
  refine wpAny_mono (soundSs ps C ok hoc body hb _ _ { s₁ with heap := h', toks := tk } _ _ _ T' q₁ R') (fun _ _ x => x.up (l₁.trans l') ?_) fun _ _ x => x
  exact (Rest.toks.trans r₁).trans Rest.mk'
theorem law_start63 {cap : Int} {prog : Program} {w : World} {p : Program} {loose : List Str} {mean : ExcName → Option Value} {mg mb : Str → Option Value} {h₀ : Heap} {env : Env} {L l : Addr} {x₀ : Str} {vs : List Value} {ns : List Int} {m₀ : Str → Option Value} {cells : Led}
    {s : Shared} {Q : Flow → Shared → Prop} {E : Value → Shared → Prop} {body : List Stmt} {kk : Nat} {p₁ p₂ p₃ p₄ p₅ pos : Pos} {K : Keys} {ps : PSs} {gval : Nat → Option AV} {fns : Fns} {fa : FA}
    (T : Top p loose mean mg mb h₀) (nb : NoneBooked h₀) (F : Fr h₀ L s.heap m₀) (N : News h₀ L s.heap cells) (hL : h₀.IsList l vs.toArray) (hI : IntsAre vs ns)
    (hm : m₀ x₀ = some (.ref l)) (hx : x₀ ∉ K.cells) (hcell : ∀ x ∈ K.cells, ∃ c o, env.cells.lookup x = some c ∧ (c, o) ∈ cells ∧ isCellObj o)
    (hb : mSs K ps body = true) (hn0 : K.names[0]? = some x₀) (hcs : env.scope.kind = .function) (heL : env.locals = L) (heg : env.globals = mainGlobals) (heb : env.builtins = builtinsNs) (hfa : fa.top = h₀)
    (hok : ∀ C : Cx, C.K = K → C.gval = gval → C.fns = fns → C.fa = fa → C.env = env → FrameOf ⟨prog, w, p, loose, mean, mg, mb⟩ C 8 → CxOK C)
    (q : wpSs gval fns (.cons (.assign (.name 0) (.slTo (.loc 0) (.const (.int cap)))) ps) ⟨fun i => if i = 0 then some (.lst 0) else none, [ns.map .int], []⟩ fun fl _ => fl = .ret (.bool true))
    (hQ : ∀ h' tk m', Fr h₀ L h' m' → Q (.ret (.bool true)) { s with heap := h', toks := tk }) :
    wpAny (model prog w) (callerA.deeper env) (execs (.Assign [.Name x₀ p₁] (.Subscript (.Name x₀ p₂) (.Slice none (some (.Constant (.int cap) kk p₃)) none p₄) p₅) pos :: body) env) Q E s := by
  refine law_core T nb F N hL hI hm hx hcell hn0 hcs heL heg heb hfa hok (fun C ok e1 e2 e3 e4 e5 e6 e7 e8 R => ?_) hQ
  subst e4 e5 e6 e7
  exact first63 ok e8 hn0 hb q R

noncomputable def faOf (mg : Str → Option Value) (h : Heap) (names : List Str) : FA := ⟨fun k => match mg (names.getD k "") with | some (.ref a) => a | _ => 0, h⟩

theorem fa_at {p : Program} {loose : List Str} {mean : ExcName → Option Value} {mg mb : Str → Option Value} {h : Heap} (T : Top p loose mean mg mb h) {d : DefRec} (hd : d ∈ recsOf p) {names : List Str} {k : Nat} (hn : names[k]? = some d.name) :
    mg d.name = some (.ref ((faOf mg h names).addr k)) ∧ ∃ o fd, h.get? ((faOf mg h names).addr k) = some o ∧ o.data = .func fd := by
  obtain ⟨a, o, pm, code, doc, h1, h2, h3, h4⟩ := T.fn d hd
  have e : (faOf mg h names).addr k = a := by
    simp only [faOf, List.getD, hn, Option.getD_some, h1]
  rw [e]
  exact ⟨h1, o, _, h2, h3⟩

theorem nb_of {h : Heap} (e : h.get? cStatics = some { cls := .none, data := .dict #[] }) : NoneBooked h := ⟨fun _ => none, ⟨_, #[], 0, e, rfl, fun _ he => by simp at he, fun _ => rfl⟩, rfl⟩
theorem glob_bi {p : Program} {loose : List Str} {mean : ExcName → Option Value} {mg mb : Str → Option Value} {h : Heap} (T : Top p loose mean mg mb h) {x : Str} {v : Value} (hv : bootBuiltins x = some v)
    (h1 : x ∉ startupNames) (h2 : x ∉ loose) (h3 : x ∉ (recsOf p).map (·.name)) (h4 : x ∉ (litsOf p).map (·.1)) (h4c : x ∉ (clssOf p loose).map (·.name)) (hn : x ≠ "__name__") : mg x = none ∧ mb x = some v :=
  ⟨T.free x h1 h2 h3 h4 h4c, (T.builtins x hn).trans hv⟩
end Mine
namespace Mine
open PySem PySem.W PySem.Float64

section
variable {g : Nat → Option AV} {fns : Fns} {σ : St} {Q : AV → St → Prop} {P : Fl → St → Prop} {B : Bool → Prop}

theorem loc_set_eq {n : Nat} {v : AV} : (σ.set n v).loc n = some v := by simp [St.set, upd]
theorem loc_set_ne {n k : Nat} {v : AV} {o : Option AV} (hne : n ≠ k) (h : σ.loc n = o) : (σ.set k v).loc n = o := by simp [St.set, upd, hne, h]
theorem loc_alloc {n : Nat} {l : List AV} {o : Option AV} (h : σ.loc n = o) : (σ.alloc l).loc n = o := h
theorem objs_set {n : Nat} {v : AV} {o : List (List AV)} (h : σ.objs = o) : (σ.set n v).objs = o := h
theorem objs_alloc {l : List AV} {o : List (List AV)} (h : σ.objs = o) : (σ.alloc l).objs = o ++ [l] := by simp [St.alloc, h]

theorem i_const {v : AV} (h : Q v σ) : wpE g fns (.const v) σ Q := h
theorem i_loc {n : Nat} {v : AV} (e : σ.loc n = some v) (h : Q v σ) : wpE g fns (.loc n) σ Q := ⟨v, e, h⟩
theorem i_glob {n : Nat} {v : AV} (e : g n = some v) (h : Q v σ) : wpE g fns (.glob n) σ Q := ⟨v, e, h⟩
theorem i_bin {op : Operator} {l r : PE} (h : wpE g fns l σ fun a σ₁ => wpE g fns r σ₁ fun b σ₂ => binL op a b σ₂ Q) : wpE g fns (.bin op l r) σ Q := h
theorem i_not {e : PE} (h : wpE g fns e σ fun v σ₁ => truthW v σ₁ fun b => Q (.bool (!b)) σ₁) : wpE g fns (.not e) σ Q := h
theorem i_cmp {op : CmpOp} {l r : PE} (h : wpE g fns l σ fun a σ₁ => wpE g fns r σ₁ fun b σ₂ => cmpL op a b σ₂ fun c => Q (.bool c) σ₂) : wpE g fns (.cmp op l r) σ Q := h
theorem i_bools {isAnd : Bool} {e : PE} {es : PEs} (h : wpE g fns e σ fun v σ₁ => wpBr g fns isAnd es v σ₁ Q) : wpE g fns (.bools isAnd (.cons e es)) σ Q := h
theorem i_br_nil {isAnd : Bool} {v : AV} (h : Q v σ) : wpBr g fns isAnd .nil v σ Q := h
theorem i_and {b : Bool} {e : PE} {es : PEs} (h : b = true → wpE g fns e σ fun u σ₁ => wpBr g fns true es u σ₁ Q) (h' : b = false → Q (.bool b) σ) : wpBr g fns true (.cons e es) (.bool b) σ Q := ⟨h, h'⟩
theorem i_or {b : Bool} {e : PE} {es : PEs} (h : b = false → wpE g fns e σ fun u σ₁ => wpBr g fns false es u σ₁ Q) (h' : b = true → Q (.bool b) σ) : wpBr g fns false (.cons e es) (.bool b) σ Q := ⟨h, h'⟩
theorem i_call {f : PE} {args : PEs} (h : wpE g fns f σ fun fv σ₁ => fv.callable = true ∧ wpEs g fns args σ₁ fun vs σ₂ => callW fns fv vs σ₂ Q) : wpE g fns (.call f args) σ Q := h
theorem i_sub {e i : PE} (h : wpE g fns e σ fun o σ₁ => wpE g fns i σ₁ fun v σ₂ => subW o v σ₂ Q) : wpE g fns (.sub e i) σ Q := h
theorem i_slTo {e hi : PE} (h : wpE g fns e σ fun o σ₁ => wpE g fns hi σ₁ fun h σ₂ => ∃ k, h = .int k ∧ sliceW o none (some k) σ₂ Q) : wpE g fns (.slTo e hi) σ Q := h
theorem i_slAll {e lo hi : PE} (h : wpE g fns e σ fun o σ₁ => wpE g fns lo σ₁ fun l σ₂ => wpE g fns hi σ₂ fun h σ₃ => ∃ k j, l = .int k ∧ h = .int j ∧ sliceW o (some k) (some j) σ₃ Q) : wpE g fns (.slAll e lo hi) σ Q := h
theorem i_tuple {es : PEs} (h : wpEs g fns es σ fun vs σ₁ => vs.length ≤ sizeLine ∧ Q (.tup vs) σ₁) : wpE g fns (.tuple es) σ Q := h
theorem l_new {o : List (List AV)} {vs : List AV} {R : Nat → Prop} (ho : σ.objs = o) (hz : vs.length ≤ sizeLine) (h : R o.length) : vs.length ≤ sizeLine ∧ ∃ n, σ.objs.length = n ∧ R n := ⟨hz, _, by rw [ho], h⟩
theorem i_list {es : PEs} (h : wpEs g fns es σ fun vs σ₁ => vs.length ≤ sizeLine ∧ ∃ n, σ₁.objs.length = n ∧ Q (.lst n) (σ₁.alloc vs)) : wpE g fns (.list es) σ Q := h
theorem i_es_nil {R : List AV → St → Prop} (h : R [] σ) : wpEs g fns .nil σ R := h
theorem i_es_cons {e : PE} {es : PEs} {R : List AV → St → Prop} (h : wpE g fns e σ fun v σ₁ => wpEs g fns es σ₁ fun vs σ₂ => R (v :: vs) σ₂) : wpEs g fns (.cons e es) σ R := h
theorem i_truth {b : Bool} (h : B b) : truthW (.bool b) σ B := h

theorem i_nil (h : P .next σ) : wpSs g fns .nil σ P := h
theorem i_assign {n : Nat} {e : PE} {ss : PSs} (h : wpE g fns e σ fun v σ₁ => wpSs g fns ss (σ₁.set n v) P) : wpSs g fns (.cons (.assign (.name n) e) ss) σ P := h
theorem i_ret {e : PE} {ss : PSs} (h : wpE g fns e σ fun v σ₁ => P (.ret v) σ₁) : wpSs g fns (.cons (.ret e) ss) σ P := h
theorem i_if {c : PE} {a b ss : PSs} (h : wpE g fns c σ fun v σ₁ => truthW v σ₁ fun t => (t = true → wpSs g fns a σ₁ fun fl σ₂ => match fl with | .next => wpSs g fns ss σ₂ P | .ret v => P (.ret v) σ₂) ∧
    (t = false → wpSs g fns b σ₁ fun fl σ₂ => match fl with | .next => wpSs g fns ss σ₂ P | .ret v => P (.ret v) σ₂)) : wpSs g fns (.cons (.ifs c a b) ss) σ P := h
theorem i_assignT {ns : List Nat} {e : PE} {ss : PSs} (h : wpE g fns e σ fun v σ₁ => partsW (some ns.length) v σ₁.objs fun vs => wpSs g fns ss (setAll σ₁ ns vs) P) : wpSs g fns (.cons (.assign (.tup ns) e) ss) σ P := by
  show wpE g fns e σ fun v σ₁ => bindW (.tup ns) v σ₁ fun σ₂ => wpSs g fns ss σ₂ P
  exact h
theorem i_for {t : Tgt} {it : PE} {body ss : PSs} (h : wpE g fns it σ fun v σ₁ => itemsW v σ₁ fun items => ∃ J : Nat → St → Prop, J 0 σ₁ ∧
      (∀ i u σ₂, items[i]? = some u → J i σ₂ → bindW t u { σ₂ with own := frozen v σ₂.own } fun σ₂' => wpSs g fns body σ₂' fun fl σ₃ => match fl with
        | .next => J (i + 1) { σ₃ with own := thawed v σ₂.own σ₃.own } | .ret w => P (.ret w) { σ₃ with own := thawed v σ₂.own σ₃.own }) ∧ (∀ σ₂, J items.length σ₂ → wpSs g fns ss σ₂ P)) : wpSs g fns (.cons (.for_ t it body) ss) σ P := h
theorem b_name {n : Nat} {v : AV} {K : St → Prop} (h : K (σ.set n v)) : bindW (.name n) v σ K := h
theorem b_tup {ns : List Nat} {l : List AV} {K : St → Prop} (hl : l.length = ns.length) (h : K (setAll σ ns l)) : bindW (.tup ns) (.tup l) σ K := ⟨hl, h⟩
theorem comp_fm {turn : AV → List (List AV) → (Option AV → List (List AV) → Prop) → Prop} {n : Nat} (r : AV → Option AV) : ∀ (items : List AV) (objs : List (List AV)) (Qf : List (List AV) → Prop),
    (∀ u ∈ items, ∀ objs K, K (r u) objs → turn u objs K) → n < objs.length → Qf (objs.set n (objs.getD n [] ++ items.filterMap r)) → compL turn n items objs Qf
  | [], objs, Qf, _, hn, h => by
    show Qf objs
    simp only [List.filterMap_nil, List.append_nil] at h
    have e : objs.set n (objs.getD n []) = objs := by simp [hn]
    rw [e] at h
    exact h
  | u :: us, objs, Qf, ht, hn, h => by
    refine ht u (.head _) objs _ ?_
    cases hr : r u with
    | none =>
      simp only [List.filterMap_cons, hr] at h
      exact comp_fm r us objs Qf (fun v hv => ht v (.tail _ hv)) hn h
    | some w =>
      simp only [List.filterMap_cons, hr] at h
      refine comp_fm r us _ Qf (fun v hv => ht v (.tail _ hv)) (by simp [appendAt, hn]) ?_
      have e : (appendAt objs n w).set n ((appendAt objs n w).getD n [] ++ us.filterMap r) = objs.set n (objs.getD n [] ++ w :: us.filterMap r) := by
        simp [appendAt, hn, List.getD, List.append_assoc]
      rw [e]
      exact h
noncomputable def compRest (turn : AV → List (List AV) → (Option AV → List (List AV) → Prop) → Prop) (σ : St) (items : List AV) (Q : AV → St → Prop) : Prop :=
  items.length ≤ sizeLine ∧ ∃ n, σ.objs.length = n ∧ compL turn n items (σ.objs ++ [[]]) fun objs => Q (.lst n) ⟨σ.loc, objs, n :: σ.own⟩
theorem i_comp {elt iter : PE} {o : Option Nat} {caps gl : List Nat} {ifs : PEs} (h : wpE g fns iter σ fun v σ₁ => itemsW v σ₁ fun items => compRest (compTurnW g σ₁.loc elt o caps gl ifs) σ₁ items Q) : wpE g fns (.comp elt o caps gl iter ifs) σ Q := h
theorem l_comp {turn : AV → List (List AV) → (Option AV → List (List AV) → Prop) → Prop} {os : List (List AV)} {items : List AV} (r : AV → Option AV) (ho : σ.objs = os) (hz : items.length ≤ sizeLine)
    (ht : ∀ u ∈ items, ∀ objs K, K (r u) objs → turn u objs K) (h : Q (.lst os.length) (σ.alloc (items.filterMap r))) :
    compRest turn σ items Q := by
  subst ho
  refine ⟨hz, _, rfl, comp_fm r items _ _ ht (by simp) ?_⟩
  have e : (σ.objs ++ [[]]).set σ.objs.length ((σ.objs ++ [[]]).getD σ.objs.length [] ++ items.filterMap r) = σ.objs ++ [items.filterMap r] := by
    simp [List.getD]
  rw [e]
  exact h
theorem t_lst {j : Nat} {os : List (List AV)} {l : List AV} {K : List AV → Prop} (ho : σ.objs = os) (hj : os[j]? = some l) (h : K l) : itemsW (.lst j) σ K := by
  subst ho
  exact ⟨l, hj, h⟩
theorem t_tup {l : List AV} {K : List AV → Prop} (h : K l) : itemsW (.tup l) σ K := h
theorem rng_len (a b c : Int) : (rngItems a b c).length = (Builtin.Range.rangeSize a b c).toNat := by simp [rngItems]
theorem rng_get {a b c : Int} {i : Nat} {u : AV} (h : (rngItems a b c)[i]? = some u) : i < (Builtin.Range.rangeSize a b c).toNat ∧ u = .int (a + (i : Int) * c) := by
  have hi := (List.getElem?_eq_some_iff.mp h).1
  rw [rng_len] at hi
  refine ⟨hi, ?_⟩
  simp only [rngItems, List.getElem?_map, List.getElem?_range hi, Option.map_some, Option.some.injEq] at h
  exact h.symm

theorem o_addI {x y : Int} (h : Q (.int (x + y)) σ) : binL .Add (.int x) (.int y) σ Q := h
theorem o_subI {x y : Int} (h : Q (.int (x - y)) σ) : binL .Sub (.int x) (.int y) σ Q := h
theorem o_mulI {x y : Int} (hm : IntMulOk x y) (h : Q (.int (x * y)) σ) : binL .Mult (.int x) (.int y) σ Q := ⟨hm, h⟩
theorem o_fdivI {x y : Int} (h0 : y ≠ 0) (h1 : y.natAbs.log2 < 9000) (h : Q (.int (x.fdiv y)) σ) : binL .FloorDiv (.int x) (.int y) σ Q := ⟨⟨h0, h1⟩, h⟩
theorem o_modI {x y : Int} (h0 : y ≠ 0) (h : Q (.int (x.fmod y)) σ) : binL .Mod (.int x) (.int y) σ Q := ⟨h0, h⟩
theorem o_powI {x y : Int} (h0 : 0 ≤ y) (h1 : y ≤ 1000000) (h2 : x.natAbs < 2 ^ 64) (h : Q (.int (x ^ y.toNat)) σ) : binL .Pow (.int x) (.int y) σ Q := ⟨⟨h0, h1, h2⟩, h⟩
theorem o_divI {x y : Int} (h0 : y ≠ 0) (h1 : x.natAbs < 2 ^ 1023) (h : Q (.float (divII x y)) σ) : binL .Div (.int x) (.int y) σ Q := ⟨⟨h0, .inl h1⟩, h⟩
theorem o_addF {x y : UInt64} (h : Q (.float (add x y)) σ) : binL .Add (.float x) (.float y) σ Q := h
theorem o_subF {x y : UInt64} (h : Q (.float (sub x y)) σ) : binL .Sub (.float x) (.float y) σ Q := h
theorem o_mulF {x y : UInt64} (h : Q (.float (mul x y)) σ) : binL .Mult (.float x) (.float y) σ Q := h
theorem o_divF {x y : UInt64} (h0 : isZero y = false) (h : Q (.float (div x y)) σ) : binL .Div (.float x) (.float y) σ Q := ⟨h0, h⟩
theorem o_modF {x y : UInt64} (h0 : isZero y = false) (h : Q (.float (divmod x y).2) σ) : binL .Mod (.float x) (.float y) σ Q := ⟨h0, h⟩
theorem o_mulIF {x : UInt64} {n : Int} (h0 : n.natAbs < 2 ^ 1023) (h : Q (.float (mul (ofInt n) x)) σ) : binL .Mult (.int n) (.float x) σ Q := ⟨h0, h⟩
theorem o_addL {i j : Nat} {o : List (List AV)} {l k : List AV} (ho : σ.objs = o) (hi : o[i]? = some l) (hj : o[j]? = some k) (hz : l.length + k.length ≤ sizeLine) (h : Q (.lst o.length) (σ.alloc (l ++ k))) : binL .Add (.lst i) (.lst j) σ Q := by
  subst ho
  exact ⟨l, k, hi, hj, hz, h⟩
theorem c_int {op : CmpOp} {x y : Int} (h0 : isOrd op = true) (h : B (icmp op x y)) : cmpL op (.int x) (.int y) σ B := ⟨h0, h⟩
theorem c_flt {op : CmpOp} {x y : UInt64} (h0 : isOrd op = true) (h : B (fcmp op (cmp x y))) : cmpL op (.float x) (.float y) σ B := ⟨h0, h⟩
theorem c_neL {i j : Nat} {o : List (List AV)} {l k : List AV} {ns ms : List Int} (ho : σ.objs = o) (hi : o[i]? = some l) (hj : o[j]? = some k) (h1 : intsOf l = some ns) (h2 : intsOf k = some ms) (h : B (!decide (ns = ms))) : cmpL .NotEq (.lst i) (.lst j) σ B := by
  subst ho
  exact ⟨l, k, ns, ms, ⟨hi, hj⟩, ⟨h1, h2⟩, .inr ⟨rfl, h⟩⟩
theorem s_item {j : Nat} {k : Int} {o : List (List AV)} {l : List AV} {v : AV} (ho : σ.objs = o) (hj : o[j]? = some l) (h0 : 0 ≤ k) (h1 : k < 2 ^ 63) (hv : l[k.toNat]? = some v) (h : Q v σ) : subW (.lst j) (.int k) σ Q := by
  subst ho
  exact ⟨l, v, hj, ⟨h0, h1⟩, hv, h⟩
theorem s_slice {j : Nat} {lo hi : Option Int} {o : List (List AV)} {l : List AV} (ho : σ.objs = o) (hj : o[j]? = some l) (hz : l.length ≤ sizeLine) (h : Q (.lst o.length) (σ.alloc (pick l lo hi))) : sliceW (.lst j) lo hi σ Q := by
  subst ho
  exact ⟨l, hj, hz, h⟩
theorem k_fn {k : Nat} {args : List AV} (h : fns k args σ.objs (fun v objs => Q v { σ with objs := objs })) : callW fns (.fn k) args σ Q := h
theorem k_len {i : Nat} {o : List (List AV)} {l : List AV} (ho : σ.objs = o) (hi : o[i]? = some l) (hz : l.length < 2 ^ 40) (h : Q (.int l.length) σ) : callW fns (.bi .len) [.lst i] σ Q := by
  subst ho
  exact ⟨l, hi, hz, h⟩
theorem k_min {x y : Int} (h : Q (.int (if y < x then y else x)) σ) : callW fns (.bi .min) [.int x, .int y] σ Q := h
theorem k_range1 {b : Int} (h : Q (.rng 0 b 1) σ) : callW fns (.typ .range) [.int b] σ Q := h
theorem k_range2 {a b : Int} (h : Q (.rng a b 1) σ) : callW fns (.typ .range) [.int a, .int b] σ Q := h
theorem k_range3 {a b c : Int} (h0 : c ≠ 0) (h1 : c.natAbs.log2 < 9000) (h : Q (.rng a b c) σ) : callW fns (.typ .range) [.int a, .int b, .int c] σ Q := ⟨⟨h0, h1⟩, h⟩
theorem t_rng {a b c : Int} {K : List AV → Prop} (h0 : Builtin.Range.small a b c = true) (h1 : 0 < c) (h : K (rngItems a b c)) : itemsW (.rng a b c) σ K := ⟨⟨h0, h1⟩, h⟩
end
end Mine
namespace Mine
open PySem PySem.Float64


noncomputable def Fi (x : UInt64) : Prop := ∃ a m e, decode x = .fin a m e
noncomputable def Rep (Z : Nat) : Prop := ∃ t, t < infMag ∧ V t = Z

theorem V_inj {t t' : Nat} (h : V t = V t') : t = t' := by
  rcases Nat.lt_trichotomy t t' with h1 | h1 | h1
  · have := V_lt h1; omega
  · exact h1
  · have := V_lt h1; omega

theorem rep_of {q k : Nat} (hq : q ≤ 2 ^ 53) (hk : k ≤ 2000) : Rep (q * 2 ^ k) := by
  induction k generalizing q with
  | zero =>
    refine ⟨q, ?_, ?_⟩
    · have : infMag = 2047 * 2 ^ 52 := rfl
      (first | lia | omega)
    · have := V_at (k := 0) (q := q) hq (.inr rfl)
      simpa using this
  | succ k ih =>
    by_cases h : 2 ^ 52 ≤ q
    · refine ⟨(k + 1) * 2 ^ 52 + q, ?_, V_at hq (.inl h)⟩
      have : infMag = 2047 * 2 ^ 52 := rfl
      (first | lia | omega)
    · have := ih (q := 2 * q) (by (first | lia | omega)) (by (first | lia | omega))
      rw [Nat.pow_succ, ← Nat.mul_assoc, Nat.mul_right_comm]
      rw [Nat.mul_comm q 2]
      exact this

theorem fi_pack {s : Bool} {t : Nat} (h : t < infMag) : Fi (pack s t) ∧ val (pack s t) = sgn s (V t) := by
  obtain ⟨m, e, hd, _⟩ := decode_pack s h
  exact ⟨⟨s, m, e, hd⟩, val_pack s h⟩

theorem right_exact {r : UInt64} {neg : Bool} {W D Z : Nat} (h : Right r neg W D) (hD : 0 < D) (hW : W = D * Z) (hz : Rep Z) : Fi r ∧ val r = sgn neg Z := by
  obtain ⟨t, rfl, ht, hov, hn⟩ := h
  obtain ⟨t₀, ht₀, hV⟩ := hz
  have hlt : t < infMag := by
    rcases Nat.lt_or_eq_of_le ht with h | h
    · exact h
    · exfalso
      have h1 := hov.mp h
      have hB : V t₀ ≤ V (infMag - 1) := V_mono (by (first | lia | omega))
      have hA : V (infMag - 1) = (2 ^ 53 - 1) * 2 ^ 2045 := by
        have e : infMag - 1 = 2045 * 2 ^ 52 + (2 ^ 53 - 1) := by unfold infMag; (first | lia | omega)
        rw [e]
        exact V_at (k := 2045) (q := 2 ^ 53 - 1) (by (first | lia | omega)) (.inl (by (first | lia | omega)))
      rw [hW, ← hV] at h1
      have h2 : D * V t₀ ≤ D * ((2 ^ 53 - 1) * 2 ^ 2045) := Nat.mul_le_mul_left D (by (first | lia | omega))
      have h3 : (0 : Nat) < 2 ^ 2045 := Nat.two_pow_pos _
      generalize (2 : Nat) ^ 2045 = Y at *
      have h4 : D * ((2 ^ 54 - 1) * Y) = 2 * (D * ((2 ^ 53 - 1) * Y)) + D * Y := by
        have : (2 ^ 54 - 1) * Y = 2 * ((2 ^ 53 - 1) * Y) + Y := by (first | lia | omega)
        rw [this, Nat.mul_add, Nat.mul_left_comm]
      have h5 : 0 < D * Y := Nat.mul_pos hD h3
      (first | lia | omega)
  have hd := (hn hlt t₀).1
  rw [hW, ← hV] at hd
  have e0 : dist (D * V t₀) (D * V t₀) = 0 := by unfold dist; (first | lia | omega)
  rw [e0] at hd
  have e1 : D * V t = D * V t₀ := by unfold dist at hd; (first | lia | omega)
  have e2 : V t = V t₀ := Nat.eq_of_mul_eq_mul_left hD e1
  rw [← hV, ← e2]
  exact fi_pack hlt

theorem sgn_abs (z : Int) : sgn (decide (z < 0)) z.natAbs = z := by
  unfold sgn
  by_cases h : z < 0 <;> simp [h] <;> omega

theorem val_zero (s : Bool) : Fi (zero s) ∧ val (zero s) = 0 := by
  have := fi_pack (s := s) (t := 0) (by unfold infMag; omega)
  refine ⟨this.1, this.2.trans ?_⟩
  rw [V_zero]
  unfold sgn
  cases s <;> rfl

theorem add_exact {x y : UInt64} (hx : Fi x) (hy : Fi y) (hz : Rep (val x + val y).natAbs) : Fi (add x y) ∧ val (add x y) = val x + val y := by
  obtain ⟨a, m, e, hx⟩ := hx
  obtain ⟨b, k, f, hy⟩ := hy
  have h := add_right hx hy
  by_cases h0 : val x + val y = 0
  · rw [h.1 h0, h0]
    exact val_zero _
  · have := right_exact (h.2 h0) Nat.one_pos (by rw [Nat.one_mul]) hz
    rw [sgn_abs] at this
    exact this
theorem sub_exact {x y : UInt64} (hx : Fi x) (hy : Fi y) (hz : Rep (val x - val y).natAbs) : Fi (sub x y) ∧ val (sub x y) = val x - val y := by
  obtain ⟨a, m, e, hx⟩ := hx
  obtain ⟨b, k, f, hy⟩ := hy
  have h := sub_right hx hy
  by_cases h0 : val x - val y = 0
  · rw [h.1 h0, h0]
    exact val_zero _
  · have := right_exact (h.2 h0) Nat.one_pos (by rw [Nat.one_mul]) hz
    rw [sgn_abs] at this
    exact this

theorem sgn_sgn (a b : Bool) (m k : Nat) : sgn (a != b) (m * k) = sgn a m * sgn b k := by
  cases a <;> cases b <;> simp [sgn, Int.neg_mul, Int.mul_neg]
theorem val_sgn {x : UInt64} {a : Bool} {m : Nat} {e : Int} (h : decode x = .fin a m e) : val x = sgn a (val x).natAbs := by
  rw [val_eq h, sgn_natAbs]

noncomputable def TT : Nat := 2 ^ 1074
theorem TT_pos : 0 < TT := Nat.two_pow_pos _
theorem TT_eq (e : Nat) (h : e ≤ 1074) : TT = 2 ^ (1074 - e) * 2 ^ e := by
  unfold TT
  rw [← Nat.pow_add, Nat.sub_add_cancel h]

theorem mul_exact {x y : UInt64} {Z : Int} (hx : Fi x) (hy : Fi y) (hZ : val x * val y = Z * TT) (hz : Rep Z.natAbs) : Fi (mul x y) ∧ val (mul x y) = Z := by
  obtain ⟨a, m, e, hx⟩ := hx
  obtain ⟨b, k, f, hy⟩ := hy
  have h : Right (mul x y) (a != b) ((val x).natAbs * (val y).natAbs) TT := mul_right hx hy
  have e1 : (val x).natAbs * (val y).natAbs = TT * Z.natAbs := by
    rw [← Int.natAbs_mul, hZ, Int.natAbs_mul, Int.natAbs_natCast, Nat.mul_comm]
  have := right_exact h TT_pos e1 hz
  refine ⟨this.1, this.2.trans ?_⟩
  have e2 : sgn (a != b) ((val x).natAbs * (val y).natAbs) = val x * val y := by
    rw [sgn_sgn, ← val_sgn hx, ← val_sgn hy]
  rw [e1, Nat.mul_comm, sgn_mul, hZ] at e2
  have hp : ((TT : Nat) : Int) ≠ 0 := by have := TT_pos; omega
  exact Int.eq_of_mul_eq_mul_right hp e2

structure Is (x : UInt64) (n : Int) (e : Nat) : Prop where
  fi : Fi x
  eq : val x * 2 ^ e = n * TT

theorem pow_pos_int (e : Nat) : (0 : Int) < 2 ^ e := Int.pow_pos (by decide)
theorem Is.inj {x : UInt64} {n m : Int} {e : Nat} (h : Is x n e) (k : Is x m e) : n = m := by
  have := h.eq.symm.trans k.eq
  exact Int.eq_of_mul_eq_mul_right (by have := TT_pos; (first | lia | omega)) this
theorem Is.val_eq {x y : UInt64} {n : Int} {e : Nat} (h : Is x n e) (k : Is y n e) : val x = val y := by
  have := h.eq.trans k.eq.symm
  exact Int.eq_of_mul_eq_mul_right (Int.ne_of_gt (pow_pos_int e)) this
theorem Is.up {x : UInt64} {n : Int} {e : Nat} (h : Is x n e) (k : Nat) : Is x (n * 2 ^ k) (e + k) :=
  ⟨h.fi, by rw [Int.pow_add, ← Int.mul_assoc, h.eq, Int.mul_right_comm]⟩
theorem Is.down {x : UInt64} {n : Int} {e k : Nat} (h : Is x (n * 2 ^ k) (e + k)) : Is x n e := by
  refine ⟨h.fi, ?_⟩
  have := h.eq
  rw [Int.pow_add, ← Int.mul_assoc, Int.mul_right_comm n] at this
  exact Int.eq_of_mul_eq_mul_right (Int.ne_of_gt (pow_pos_int k)) this

theorem rep_few {z n : Int} {e : Nat} (h : z * 2 ^ e = n * TT) (hn : n.natAbs ≤ 2 ^ 53) (he : e ≤ 1074) : Rep z.natAbs := by
  have h1 : z = n * 2 ^ (1074 - e) := by
    rw [TT_eq e he] at h
    have : z * 2 ^ e = n * 2 ^ (1074 - e) * 2 ^ e := by
      rw [h, Int.natCast_mul, Int.natCast_pow, Int.natCast_pow, Int.mul_assoc]; rfl
    exact Int.eq_of_mul_eq_mul_right (Int.ne_of_gt (pow_pos_int e)) this
  rw [h1, Int.natAbs_mul, Int.natAbs_pow]
  exact rep_of hn (by omega)

theorem Is.add {x y : UInt64} {n m : Int} {e : Nat} (h : Is x n e) (k : Is y m e) (hn : (n + m).natAbs ≤ 2 ^ 53) (he : e ≤ 1074) : Is (add x y) (n + m) e := by
  have hs : (val x + val y) * 2 ^ e = (n + m) * TT := by rw [Int.add_mul, h.eq, k.eq, Int.add_mul]
  have := add_exact h.fi k.fi (rep_few hs hn he)
  exact ⟨this.1, by rw [this.2]; exact hs⟩
theorem Is.sub {x y : UInt64} {n m : Int} {e : Nat} (h : Is x n e) (k : Is y m e) (hn : (n - m).natAbs ≤ 2 ^ 53) (he : e ≤ 1074) : Is (sub x y) (n - m) e := by
  have hs : (val x - val y) * 2 ^ e = (n - m) * TT := by rw [Int.sub_mul, h.eq, k.eq, Int.sub_mul]
  have := sub_exact h.fi k.fi (rep_few hs hn he)
  exact ⟨this.1, by rw [this.2]; exact hs⟩
theorem Is.mul {x y : UInt64} {n m : Int} {e f : Nat} (h : Is x n e) (k : Is y m f) (hn : (n * m).natAbs ≤ 2 ^ 53) (he : e + f ≤ 1074) : Is (mul x y) (n * m) (e + f) := by
  have hT : (n * m * 2 ^ (1074 - (e + f))) * 2 ^ (e + f) = n * m * TT := by
    rw [TT_eq (e + f) he, Int.natCast_mul, Int.natCast_pow, Int.natCast_pow, Int.mul_assoc]; rfl
  have hZ : val x * val y = (n * m * 2 ^ (1074 - (e + f))) * TT := by
    have h1 : val x * val y * 2 ^ (e + f) = n * m * TT * TT := by
      rw [Int.pow_add]
      calc val x * val y * (2 ^ e * 2 ^ f) = (val x * 2 ^ e) * (val y * 2 ^ f) := by ac_rfl
        _ = n * TT * (m * TT) := by rw [h.eq, k.eq]
        _ = n * m * TT * TT := by ac_rfl
    have h2 : val x * val y * 2 ^ (e + f) = (n * m * 2 ^ (1074 - (e + f)) * TT) * 2 ^ (e + f) := by
      rw [h1, ← hT]; exact Int.mul_right_comm _ _ _
    exact Int.eq_of_mul_eq_mul_right (Int.ne_of_gt (pow_pos_int (e + f))) h2
  have := mul_exact h.fi k.fi hZ (rep_few hT hn he)
  exact ⟨this.1, by rw [this.2]; exact hT⟩

theorem Is.cmp {x y : UInt64} {n m : Int} {e : Nat} (h : Is x n e) (k : Is y m e) : cmp x y = some (compare n m) := by
  obtain ⟨a, m', e', hx⟩ := h.fi
  obtain ⟨b, k', f', hy⟩ := k.fi
  rw [cmp_right hx hy]
  congr 1
  have hp := pow_pos_int e
  have ht : (0 : Int) < TT := by have := TT_pos; omega
  have h1 := h.eq
  have h2 := k.eq
  rcases Int.lt_trichotomy n m with hlt | heq | hgt
  · have : val x < val y := by
      apply Int.lt_of_mul_lt_mul_right (a := 2 ^ e) _ (Int.le_of_lt hp)
      rw [h1, h2]
      exact Int.mul_lt_mul_of_pos_right hlt ht
    rw [Int.compare_eq_lt.mpr hlt, Int.compare_eq_lt.mpr this]
  · subst heq
    have : val x = val y := h.val_eq k
    rw [this]; simp
  · have : val y < val x := by
      apply Int.lt_of_mul_lt_mul_right (a := 2 ^ e) _ (Int.le_of_lt hp)
      rw [h1, h2]
      exact Int.mul_lt_mul_of_pos_right hgt ht
    rw [Int.compare_eq_gt.mpr hgt, Int.compare_eq_gt.mpr this]

theorem Is.quot {p q : Nat} {n e : Nat} {s : Bool} (hq : 0 < q) (h : p * 2 ^ e = n * q) (hn : n ≤ 2 ^ 53) (he : e ≤ 1074) : Is (ofFrac s p q) (sgn s n) e := by
  have hr : Right (ofFrac s p q) s (p * TT) q := ofFrac_right hq (by unfold TT; rfl) hq
  have h1 : p * TT = q * (n * 2 ^ (1074 - e)) := by
    rw [TT_eq e he]
    calc p * (2 ^ (1074 - e) * 2 ^ e) = p * 2 ^ e * 2 ^ (1074 - e) := by ac_rfl
      _ = n * q * 2 ^ (1074 - e) := by rw [h]
      _ = q * (n * 2 ^ (1074 - e)) := by ac_rfl
  have := right_exact hr hq h1 (rep_of hn (by (first | lia | omega)))
  refine ⟨this.1, ?_⟩
  rw [this.2, sgn_mul, Int.natCast_pow, Int.mul_assoc, TT_eq e he, Int.natCast_mul, Int.natCast_pow, Int.natCast_pow]; rfl

theorem Is.div {p q n : Int} {e : Nat} (hq : 0 < q) (h : p * 2 ^ e = n * q) (hn : n.natAbs ≤ 2 ^ 53) (he : e ≤ 1074) : Is (ofFrac (decide (p < 0) != decide (q < 0)) p.natAbs q.natAbs) n e := by
  have hs : (decide (p < 0) != decide (q < 0)) = decide (p < 0) := by
    have : ¬ q < 0 := by (first | lia | omega)
    simp [this]
  have h1 : p.natAbs * 2 ^ e = n.natAbs * q.natAbs := by
    have := congrArg Int.natAbs h
    rw [Int.natAbs_mul, Int.natAbs_mul, Int.natAbs_pow] at this
    exact this
  have h2 := Is.quot (s := decide (p < 0)) (by (first | lia | omega) : 0 < q.natAbs) h1 hn he
  rw [hs]
  have h3 : sgn (decide (p < 0)) n.natAbs = n := by
    have hp := pow_pos_int e
    by_cases hp0 : p < 0
    · have : n < 0 := by
        rcases Int.lt_trichotomy n 0 with h | h0 | hgt
        · exact h
        · rw [h0, Int.zero_mul] at h
          have := Int.mul_neg_of_neg_of_pos hp0 hp
          (first | lia | omega)
        · have h4 := Int.mul_pos hgt hq
          have := Int.mul_neg_of_neg_of_pos hp0 hp
          (first | lia | omega)
      unfold sgn; simp [hp0]; (first | lia | omega)
    · have : 0 ≤ n := by
        rcases Int.lt_trichotomy n 0 with hl | h0 | hgt
        · have h4 := Int.mul_neg_of_neg_of_pos hl hq
          have := Int.mul_nonneg (show 0 ≤ p by (first | lia | omega)) (Int.le_of_lt hp)
          (first | lia | omega)
        · (first | lia | omega)
        · (first | lia | omega)
      unfold sgn; simp [hp0]; (first | lia | omega)
  rw [h3] at h2
  exact h2

theorem ofBin_right (s : Bool) (M : Nat) (g : Int) (hg : -1074 ≤ g) : Right (ofBin s M g) s (M * 2 ^ (g + 1074).toNat) 1 := by
  unfold ofBin
  refine ofFrac_right (shift_pos _ _ _ (by decide)) ?_ (by decide)
  have := shift_one M g 1074 (by omega)
  rw [Nat.mul_one]
  exact this

theorem decode_one : decode one = .fin false (2 ^ 52) (-52) := by kernel_rfl
theorem one_is : Fi one ∧ val one = TT := by
  refine ⟨⟨_, _, _, decode_one⟩, ?_⟩
  rw [Float64.val_eq decode_one]
  unfold sgn TT
  simp only [Bool.false_eq_true, if_false]
  have : (-52 + 1074 : Int).toNat = 1022 := by decide
  rw [this, ← Nat.pow_add]
theorem one_Is (e : Nat) : Is one (2 ^ e) e := ⟨one_is.1, by rw [one_is.2, Int.mul_comm]⟩

theorem fm1 {e : Int} (h : -1074 ≤ e) : (e - min e (-52)).toNat + (min e (-52) + 1074).toNat = (e + 1074).toNat := by
  rcases Int.le_total e (-52) with h2 | h2
  · rw [Int.min_eq_left h2, Int.sub_self]; exact Nat.zero_add _
  · rw [Int.min_eq_right h2]; (first | lia | omega)
theorem fm2 {e : Int} (h : -1074 ≤ e) : 52 + ((-52 - min e (-52)).toNat + (min e (-52) + 1074).toNat) = 1074 := by
  rcases Int.le_total e (-52) with h2 | h2
  · rw [Int.min_eq_left h2]; omega
  · rw [Int.min_eq_right h2]; decide
theorem fmod_one {x : UInt64} {a : Bool} {m : Nat} {e : Int} (hx : decode x = .fin a m e) : Fi (fmod x one) ∧ val (fmod x one) = sgn a ((val x).natAbs % TT) := by
  have he := decode_ge hx
  have hm := (decode_le hx).1
  have hf : fmod x one = ofBin a (m * 2 ^ (e - min e (-52)).toNat % (2 ^ 52 * 2 ^ (-52 - min e (-52)).toNat)) (min e (-52)) := by
    unfold fmod
    rw [hx, decode_one]
    simp only [align, sgn, Bool.false_eq_true, if_false, Int.toNat_natCast]
    rfl
  have hr := ofBin_right a (m * 2 ^ (e - min e (-52)).toNat % (2 ^ 52 * 2 ^ (-52 - min e (-52)).toNat)) (min e (-52)) (by (first | lia | omega))
  rw [← hf] at hr
  have e1 : (m * 2 ^ (e - min e (-52)).toNat % (2 ^ 52 * 2 ^ (-52 - min e (-52)).toNat)) * 2 ^ (min e (-52) + 1074).toNat = (val x).natAbs % TT := by
    rw [val_natAbs hx, ← Nat.mul_mod_mul_right, Nat.mul_assoc, ← Nat.pow_add, Nat.mul_assoc, ← Nat.pow_add, ← Nat.pow_add]
    unfold TT
    have a1 : (e - min e (-52)).toNat + (min e (-52) + 1074).toNat = (e + 1074).toNat := fm1 he
    rw [a1, fm2 he]
  have hrep : Rep ((val x).natAbs % TT) := by
    rw [← e1]
    refine rep_of ?_ (by (first | lia | omega))
    by_cases h : e ≤ -52
    · have : min e (-52) = e := by (first | lia | omega)
      rw [this]
      have h0 : (e - e).toNat = 0 := by (first | lia | omega)
      rw [h0, Nat.pow_zero, Nat.mul_one]
      exact Nat.le_trans (Nat.mod_le _ _) (by (first | lia | omega))
    · have : min e (-52) = -52 := by (first | lia | omega)
      rw [this]
      have h0 : (-52 - -52 : Int).toNat = 0 := by decide
      rw [h0, Nat.pow_zero, Nat.mul_one]
      have := Nat.mod_lt (m * 2 ^ (e - -52).toNat) (show 0 < 2 ^ 52 by decide)
      (first | lia | omega)
  rw [e1] at hr
  have := right_exact hr Nat.one_pos (by rw [Nat.one_mul]) hrep
  exact this

theorem cmp_val {x y : UInt64} (hx : Fi x) (hy : Fi y) : Float64.cmp x y = some (compare (val x) (val y)) := by
  obtain ⟨a, m, e, hx⟩ := hx
  obtain ⟨b, k, f, hy⟩ := hy
  exact cmp_right hx hy
theorem isZero_val {x : UInt64} (hx : Fi x) : isZero x = decide (val x = 0) := by
  obtain ⟨a, m, e, hx⟩ := hx
  have h1 : isZero x = decide (m = 0) := by
    unfold isZero
    rw [hx]
    cases m <;> simp
  rw [h1, Float64.val_eq hx]
  have hp : (0 : Nat) < 2 ^ (e + 1074).toNat := Nat.two_pow_pos _
  by_cases hm : m = 0
  · subst hm
    simp [sgn]
  · have : sgn a (m * 2 ^ (e + 1074).toNat) ≠ 0 := by
      have h2 : 0 < m * 2 ^ (e + 1074).toNat := Nat.mul_pos (by (first | lia | omega)) hp
      generalize m * 2 ^ (e + 1074).toNat = z at *
      unfold sgn
      cases a
      · simp only [Bool.false_eq_true, if_false]; (first | lia | omega)
      · simp only [if_true]; (first | lia | omega)
    simp [hm, this]
theorem lt_val {x y : UInt64} (hx : Fi x) (hy : Fi y) : Float64.lt x y = decide (val x < val y) := by
  unfold Float64.lt
  rw [cmp_val hx hy]
  rcases Int.lt_trichotomy (val x) (val y) with h | h | h
  · rw [Int.compare_eq_lt.mpr h]; simp [h]
  · rw [h]; simp
  · rw [Int.compare_eq_gt.mpr h]
    have : ¬ val x < val y := by omega
    simp [this]

theorem mod_one {x : UInt64} (hx : Fi x) :
    (0 ≤ val x → Fi (divmod x one).2 ∧ val (divmod x one).2 = val x % TT) ∧
    (val x < 0 → val x % TT = 0 → (divmod x one).2 = zero false) ∧
    (val x < 0 → val x % TT ≠ 0 → (divmod x one).2 = add (fmod x one) one ∧ Fi (fmod x one) ∧ val (fmod x one) = val x % TT - TT) := by
  obtain ⟨a, m, e, hd⟩ := hx
  have hx : Fi x := ⟨a, m, e, hd⟩
  obtain ⟨hf, hv⟩ := fmod_one hd
  have hz := isZero_val hf
  have h1 : Float64.lt one (zero false) = false := by decide +kernel
  have hlt := lt_val hf (val_zero false).1
  rw [(val_zero false).2] at hlt
  have hcs : copysign (zero false) one = zero false := by decide +kernel
  have hdm : (divmod x one).2 = if val (fmod x one) = 0 then zero false else if val (fmod x one) < 0 then add (fmod x one) one else fmod x one := by
    unfold divmod
    simp only [hz, h1, hlt, hcs]
    by_cases h0 : val (fmod x one) = 0
    · simp [h0]
    · by_cases h2 : val (fmod x one) < 0
      · simp [h0, h2]
      · simp [h0, h2]
  have hT : (0 : Int) < TT := by exact_mod_cast TT_pos
  have hsg : val x = sgn a (val x).natAbs := val_sgn hd
  have ha : 0 < (val x).natAbs → (a = true ↔ val x < 0) := by
    intro hp
    rw [hsg]
    unfold sgn
    cases a
    · simp
    · simp only [if_true, true_iff]; (first | lia | omega)
  refine ⟨fun h0 => ?_, fun h0 h2 => ?_, fun h0 h2 => ?_⟩
  · have hmod : val x % TT = (((val x).natAbs % TT : Nat) : Int) := by
      rw [Int.natCast_emod]
      rw [Int.natAbs_of_nonneg h0]
    by_cases hp : val x = 0
    · have e1 : val (fmod x one) = 0 := by
        rw [hv, hp]; simp [sgn]
      rw [hdm, if_pos e1, hp]
      exact ⟨(val_zero false).1, by rw [(val_zero false).2]; simp⟩
    · have hna : a = false := by
        have := ha (Int.natAbs_pos.mpr hp)
        cases a
        · rfl
        · exact absurd (this.mp rfl) (Int.not_lt.mpr h0)
      have e1 : val (fmod x one) = val x % TT := by
        rw [hv, hna, hmod]; rfl
      have e2 : 0 ≤ val x % TT := Int.emod_nonneg _ (Int.ne_of_gt hT)
      rw [hdm, e1]
      by_cases h3 : val x % TT = 0
      · rw [if_pos h3, h3]; exact val_zero false
      · rw [if_neg h3, if_neg (Int.not_lt.mpr e2)]
        exact ⟨hf, e1⟩
  · have e1 : val (fmod x one) = 0 := by
      rw [hv]
      have : (val x).natAbs % TT = 0 := by
        have h4 : (TT : Int) ∣ val x := Int.dvd_of_emod_eq_zero h2
        have h5 := Int.natAbs_dvd_natAbs.mpr h4
        rw [Int.natAbs_natCast] at h5
        exact Nat.mod_eq_zero_of_dvd h5
      rw [this]; simp [sgn]
    rw [hdm, if_pos e1]
  · have hna : a = true := (ha (Int.natAbs_pos.mpr (Int.ne_of_lt h0))).mpr h0
    have e3 : (((val x).natAbs % TT : Nat) : Int) = TT - val x % TT := by
      rw [Int.natCast_emod]
      have h4 : ((val x).natAbs : Int) = - val x := Int.ofNat_natAbs_of_nonpos (Int.le_of_lt h0)
      rw [h4]
      have h5 : -val x = (TT - val x % TT) + TT * (-(val x / TT) - 1) := by
        have := Int.mul_ediv_add_emod (val x) TT
        rw [Int.mul_sub, Int.mul_neg]
        (first | lia | omega)
      have h6 := Int.emod_nonneg (val x) (Int.ne_of_gt hT)
      have h7 := Int.emod_lt_of_pos (val x) hT
      rw [h5, Int.add_mul_emod_self_left, Int.emod_eq_of_lt (Int.sub_nonneg.mpr (Int.le_of_lt h7)) (Int.sub_lt_self _ (Int.lt_iff_le_and_ne.mpr ⟨h6, Ne.symm h2⟩))]
    have e1 : val (fmod x one) = val x % TT - TT := by
      rw [hv, hna]
      show -(((val x).natAbs % TT : Nat) : Int) = _
      rw [e3, Int.neg_sub]
    have h6 := Int.emod_nonneg (val x) (Int.ne_of_gt hT)
    have h7 := Int.emod_lt_of_pos (val x) hT
    refine ⟨?_, hf, e1⟩
    rw [hdm, e1, if_neg (Int.ne_of_lt (Int.sub_neg_of_lt h7)), if_pos (Int.sub_neg_of_lt h7)]

theorem Is.of_decode {x : UInt64} {a : Bool} {m : Nat} {ex : Int} (hx : decode x = .fin a m ex) (e : Nat) (he : ex = -(e : Int)) (he' : e ≤ 1074) : Is x (sgn a m) e := by
  refine ⟨⟨a, m, ex, hx⟩, ?_⟩
  have h1 : (ex + 1074).toNat = 1074 - e := by (first | lia | omega)
  rw [Float64.val_eq hx, h1, sgn_mul, Int.natCast_pow, Int.mul_assoc, TT_eq e he', Int.natCast_mul, Int.natCast_pow, Int.natCast_pow]; rfl

theorem right_fi {r : UInt64} {neg : Bool} {W D Z : Nat} (h : Right r neg W D) (hD : 0 < D) (hW : W ≤ D * Z) (hz : Rep Z) : Fi r ∧ (val r).natAbs ≤ Z := by
  obtain ⟨t, rfl, ht, hov, hn⟩ := h
  obtain ⟨t₀, ht₀, hV⟩ := hz
  have hlt : t < infMag := by
    rcases Nat.lt_or_eq_of_le ht with h | h
    · exact h
    · exfalso
      have h1 := hov.mp h
      have hB : V t₀ ≤ V (infMag - 1) := V_mono (by omega)
      have hA : V (infMag - 1) = (2 ^ 53 - 1) * 2 ^ 2045 := by
        have e : infMag - 1 = 2045 * 2 ^ 52 + (2 ^ 53 - 1) := by unfold infMag; omega
        rw [e]
        exact V_at (k := 2045) (q := 2 ^ 53 - 1) (by omega) (.inl (by omega))
      rw [← hV] at hW
      have h2 : D * V t₀ ≤ D * ((2 ^ 53 - 1) * 2 ^ 2045) := Nat.mul_le_mul_left D (by omega)
      have h3 : (0 : Nat) < 2 ^ 2045 := Nat.two_pow_pos _
      generalize (2 : Nat) ^ 2045 = Y at *
      have h4 : D * ((2 ^ 54 - 1) * Y) = 2 * (D * ((2 ^ 53 - 1) * Y)) + D * Y := by
        have : (2 ^ 54 - 1) * Y = 2 * ((2 ^ 53 - 1) * Y) + Y := by omega
        rw [this, Nat.mul_add, Nat.mul_left_comm]
      have h5 : 0 < D * Y := Nat.mul_pos hD h3
      omega
  obtain ⟨h1, h2⟩ := fi_pack (s := neg) hlt
  refine ⟨h1, ?_⟩
  rw [h2, sgn_natAbs]
  have hd := (hn hlt t₀).1
  rw [hV] at hd
  rcases Nat.lt_or_ge Z (V t) with h3 | h3
  · exfalso
    have h4 : D * Z < D * V t := Nat.mul_lt_mul_of_pos_left h3 hD
    unfold dist at hd
    omega
  · exact h3

theorem fi_pack_of {x : UInt64} (hx : Fi x) : ∃ s t, t < infMag ∧ x = pack s t := by
  obtain ⟨a, m, e, hd⟩ := hx
  have hlt := x.toNat_lt
  refine ⟨x.toNat / 2 ^ 63 == 1, x.toNat % 2 ^ 63, ?_, ?_⟩
  · have hi : infMag = 2047 * 2 ^ 52 := rfl
    have hne : x.toNat / 2 ^ 52 % 2048 ≠ 2047 := by
      intro h
      unfold decode at hd
      simp only [h, beq_self_eq_true, if_true] at hd
      split at hd <;> cases hd
    (first | lia | omega)
  · apply UInt64.toNat_inj.mp
    rw [pack_toNat _ (by (first | lia | omega))]
    have : x.toNat / 2 ^ 63 = 0 ∨ x.toNat / 2 ^ 63 = 1 := by (first | lia | omega)
    rcases this with h | h <;> simp [h] <;> (first | lia | omega)
theorem eq_of_val {x y : UInt64} (hx : Fi x) (hy : Fi y) (h : val x = val y) (h0 : val x ≠ 0) : x = y := by
  obtain ⟨s, t, ht, rfl⟩ := fi_pack_of hx
  obtain ⟨s', t', ht', rfl⟩ := fi_pack_of hy
  rw [val_pack _ ht, val_pack _ ht'] at h
  rw [val_pack _ ht] at h0
  have e1 : V t = V t' := by
    have := congrArg Int.natAbs h
    rwa [sgn_natAbs, sgn_natAbs] at this
  have e2 : t = t' := V_inj e1
  subst e2
  have e3 : s = s' := by
    unfold sgn at h h0
    cases s <;> cases s' <;> simp at h h0 ⊢ <;> omega
  rw [e3]
theorem Is.abs_le {x : UInt64} {n : Int} {e : Nat} (h : Is x n e) (k : Nat) (hn : n.natAbs ≤ k * 2 ^ e) : (val x).natAbs ≤ k * TT := by
  have h1 := congrArg Int.natAbs h.eq
  rw [Int.natAbs_mul, Int.natAbs_mul, Int.natAbs_pow, Int.natAbs_natCast] at h1
  have h2 : n.natAbs * TT ≤ k * 2 ^ e * TT := Nat.mul_le_mul_right _ hn
  have hp : 0 < 2 ^ e := Nat.two_pow_pos e
  refine Nat.le_of_mul_le_mul_right (c := 2 ^ e) ?_ hp
  calc (val x).natAbs * 2 ^ e = n.natAbs * TT := h1
    _ ≤ k * 2 ^ e * TT := h2
    _ = k * TT * 2 ^ e := by ac_rfl
theorem rep_TT {k : Nat} (hk : k ≤ 2 ^ 53) : Rep (k * TT) := rep_of hk (by decide)
end Mine
namespace Mine
open PySem PySem.W PySem.Float64


theorem get_app {α : Type} {o : List α} {l : List α} {i : Nat} {v : α} (h : o[i]? = some v) : (o ++ l)[i]? = some v := by
  rw [List.getElem?_append_left (List.getElem?_eq_some_iff.mp h).1]; exact h
theorem pick_map {α β : Type} (f : α → β) (l : List α) (lo hi : Option Int) : pick (l.map f) lo hi = (pick l lo hi).map f := by
  simp [pick, List.map_drop, List.map_take]
theorem pick_len {α : Type} (l : List α) (lo hi : Option Int) : (pick l lo hi).length ≤ l.length := by
  simp [pick]; omega
theorem pick_some {α : Type} (l : List α) {k j : Int} (h0 : 0 ≤ k) (h1 : 0 ≤ j) (h : k + j ≤ l.length) : pick l (some k) (some (k + j)) = (l.drop k.toNat).take j.toNat := by
  have e1 : kms_lo (some k) l.length = k.toNat := by simp only [kms_lo]; rw [if_neg (by (first | lia | omega))]; (first | lia | omega)
  have e2 : kms_hi (some (k + j)) l.length = k.toNat + j.toNat := by simp only [kms_hi]; rw [if_neg (by (first | lia | omega))]; (first | lia | omega)
  unfold pick
  rw [e1, e2, Nat.add_sub_cancel_left]
theorem take3 {α : Type} (l : List α) {n : Nat} (h : n + 3 ≤ l.length) : ∃ a b c, (l.drop n).take 3 = [a, b, c] := by
  have hl : 3 ≤ (l.drop n).length := by simp; omega
  match l.drop n, hl with
  | a :: b :: c :: _, _ => exact ⟨a, b, c, rfl⟩
theorem pick3 {cs : List Int} {k : Int} (h0 : 0 ≤ k) (h : k + 3 ≤ cs.length) : ∃ a b c, pick cs (some k) (some (k + 3)) = [a, b, c] := by
  rw [pick_some cs h0 (by decide) h]; exact take3 _ (by omega)
theorem lit_one : (0x3ff0000000000000 : UInt64) = one := by decide +kernel
theorem one_nz : isZero one = false := by decide +kernel
theorem mod_rng (a : Int) {b : Int} (hb : 0 < b) : 0 ≤ a.fmod b ∧ a.fmod b < b := by
  rw [Int.fmod_eq_emod_of_nonneg _ (Int.le_of_lt hb)]
  exact ⟨Int.emod_nonneg _ (Int.ne_of_gt hb), Int.emod_lt_of_pos _ hb⟩
theorem mulOk_l {x y : Int} (h : x.natAbs < 2 ^ 64) : IntMulOk x y := by
  refine IntMulOk.of_left ?_
  unfold Builtin.Int.intBits
  split
  · omega
  · rename_i hx
    have : x.natAbs.log2 < 64 := (Nat.log2_lt (by simpa using hx)).mpr h
    omega
theorem small_fits {n : Int} (h : n.natAbs ≤ 2 ^ 60) : n.natAbs < 2 ^ 1023 := Nat.lt_of_le_of_lt h (Nat.pow_lt_pow_right (by decide) (by decide))
section
open PyProof.Rows PyProof.V
abbrev NamesOk (K : Keys) (names : List (Str × NameKind)) : Prop := ∀ x ∈ K.names, (x == ("__debug__" : Str)) = false ∧ (x ∉ K.cells → names.lookup x = some .local) ∧ (x ∈ K.cells → names.lookup x = some .cell)
theorem topC_names {C : Cx} {K : Keys} {name : Str} {scope : Scope} {L a : Addr} {cd : Value} (h : C.env = envOfC name scope L a cd) (h1 : NamesOk K scope.names) :
    ∀ x ∈ K.names, (x == ("__debug__" : Str)) = false ∧ (x ∉ K.cells → C.env.kindOf x = some .local) ∧ (x ∈ K.cells → C.env.kindOf x = some .cell) := by
  rw [h]; exact h1
theorem topC_globs {C : Cx} {K : Keys} {name : Str} {scope : Scope} {L a : Addr} {cd : Value} (h : C.env = envOfC name scope L a cd) (h1 : ∀ x ∈ K.globs, x ∉ K.far → scope.names.lookup x = some .globalImplicit) :
    ∀ x ∈ K.globs, x ∉ K.far → C.env.kindOf x = some .globalImplicit := by
  rw [h]; exact h1
theorem topC_cells {C : Cx} {K : Keys} {name : Str} {scope : Scope} {L a : Addr} {cd : Value} (h : C.env = envOfC name scope L a cd) (h1 : ∀ x ∈ K.cells, x ∈ (cellsFrom 0 scope.names []).map (·.1)) (h2 : ((cellsFrom 0 scope.names []).map (·.1)).Nodup) : ∃ b names, C.env.cells = cellsFrom b names [] ∧ CellsOk K names :=
  ⟨L + 1, scope.names, by rw [h]; rfl, h1, h2⟩
abbrev TopOk (K : Keys) (names : List (Str × NameKind)) : Prop := NamesOk K names ∧ (∀ x ∈ K.globs, x ∉ K.far → names.lookup x = some .globalImplicit) ∧ (∀ x ∈ K.cells, x ∈ (cellsFrom 0 names []).map (·.1)) ∧ ((cellsFrom 0 names []).map (·.1)).Nodup
theorem top_all {C : Cx} {K : Keys} {name : Str} {scope : Scope} {L a : Addr} {cd : Value} (h : C.env = envOfC name scope L a cd) (d : TopOk K scope.names) :
    (∀ x ∈ K.names, (x == ("__debug__" : Str)) = false ∧ (x ∉ K.cells → C.env.kindOf x = some .local) ∧ (x ∈ K.cells → C.env.kindOf x = some .cell)) ∧ (∀ x ∈ K.globs, x ∉ K.far → C.env.kindOf x = some .globalImplicit) ∧ ∃ b names, C.env.cells = cellsFrom b names [] ∧ CellsOk K names :=
  ⟨topC_names h d.1, topC_globs h d.2.1, topC_cells h d.2.2.1 d.2.2.2⟩
end

end Mine
namespace Mine
open PySem PySem.W PySem.Float64


section
variable {g : Nat → Option AV} {fns : Fns} {σ : St} {Q : AV → St → Prop} {P : Fl → St → Prop} {B : Bool → Prop}
theorem k_min3 {x y z : UInt64} (h : Q (.float (fmin3 x y z)) σ) : callW fns (.bi .min) [.float x, .float y, .float z] σ Q := h
theorem k_max3 {x y z : UInt64} (h : Q (.float (fmax3 x y z)) σ) : callW fns (.bi .max) [.float x, .float y, .float z] σ Q := h
theorem k_sortI {i : Nat} {o : List (List AV)} {l : List AV} {ns : List Int} (ho : σ.objs = o) (hi : o[i]? = some l) (hn : intsOf l = some ns) (hz : ns.length < 64)
    (h : ∀ ns' : List Int, ns'.Perm ns → ns'.Pairwise (· ≤ ·) → Q (.lst o.length) (σ.alloc (ns'.map .int))) : callW fns (.bi .sorted) [.lst i] σ Q := by
  subst ho
  exact .inl ⟨l, ns, ⟨hi, hn⟩, hz, h⟩
theorem k_sortP {i : Nat} {o : List (List AV)} {l : List AV} (ho : σ.objs = o) (hi : o[i]? = some l) (hp : l.all isPair = true) (h2 : 2 ≤ l.length) (hz : l.length ≤ sizeLine)
    (h : ∀ l' : List AV, l'.length = l.length → (∀ v ∈ l', v ∈ l) → Q (.lst o.length) (σ.alloc l')) : callW fns (.bi .sorted) [.lst i] σ Q := by
  subst ho
  exact .inr (⟨l, ⟨hi, hp⟩, ⟨h2, hz⟩, h⟩)
theorem k_isF {x : UInt64} (h : Q (.bool true) σ) : callW fns (.bi .isinstance) [.float x, .typ .float] σ Q := h
theorem k_round {x : UInt64} (h0 : isFinite x = true) (h : Q (.int (Flt.toInt nearestOf x)) σ) : callW fns (.bi .round) [.float x] σ Q := ⟨h0, h⟩
theorem s_tup {l : List AV} {k : Int} {v : AV} (h0 : 0 ≤ k) (h1 : k < 2 ^ 63) (hv : l[k.toNat]? = some v) (h : Q v σ) : subW (.tup l) (.int k) σ Q := ⟨v, ⟨h0, h1⟩, hv, h⟩
theorem i_aug {n : Nat} {op : Operator} {e : PE} {ss : PSs} {v : AV} (hv : σ.loc n = some v) (h : wpE g fns e σ fun u σ₁ => augW op v u σ₁ fun w σ₂ => wpSs g fns ss (σ₂.set n w) P) : wpSs g fns (.cons (.aug n op e) ss) σ P := ⟨v, hv, h⟩
theorem g_addL {i j : Nat} {o : List (List AV)} {l k : List AV} (ho : σ.objs = o) (hi : o[i]? = some l) (hj : o[j]? = some k) (wi : i ∈ σ.own) (hz : l.length + k.length ≤ 2 ^ 20)
    (h : Q (.lst i) { σ with objs := o.set i (l ++ k) }) : augW .Add (.lst i) (.lst j) σ Q := by
  subst ho
  exact ⟨l, k, ⟨hi, hj⟩, ⟨wi, hz⟩, h⟩
theorem c_eqL {i j : Nat} {o : List (List AV)} {l k : List AV} {ns ms : List Int} (ho : σ.objs = o) (hi : o[i]? = some l) (hj : o[j]? = some k) (h1 : intsOf l = some ns) (h2 : intsOf k = some ms) (h : B (decide (ns = ms))) : cmpL .Eq (.lst i) (.lst j) σ B := by
  subst ho
  exact ⟨l, k, ns, ms, ⟨hi, hj⟩, ⟨h1, h2⟩, .inl ⟨rfl, h⟩⟩
theorem get_last {α : Type} {o : List α} {a : α} : (o ++ [a])[o.length]? = some a := List.getElem?_concat_length ..
theorem get_set {α : Type} {o : List α} {i : Nat} {a b : α} (h : o[i]? = some b) : (o.set i a)[i]? = some a := by
  have := (List.getElem?_eq_some_iff.mp h).1
  simp [this]
theorem get_set_ne {α : Type} {o : List α} {i j : Nat} {a b : α} (hne : j ≠ i) (h : o[j]? = some b) : (o.set i a)[j]? = some b := by
  rw [List.getElem?_set_ne (fun e => hne e.symm)]; exact h
theorem log_small {n : Int} (h : n.natAbs < 2 ^ 64) : n.natAbs.log2 < 9000 := by
  by_cases h0 : n.natAbs = 0
  · rw [h0]; decide
  · have := (Nat.log2_lt h0).mpr h; omega
end

noncomputable def dropS : PSs → PSs
  | .cons _ t => t
  | x => x
end Mine
namespace Mine
open PySem PySem.Float64

noncomputable def Near (W D t : Nat) : Prop := ∀ t', dist W (D * V t) ≤ dist W (D * V t') ∧ (V t' ≠ V t → dist W (D * V t) = dist W (D * V t') → t % 2 = 0)

theorem dist_up {W x y : Nat} (h : dist W x ≤ dist W y) (hxy : y < x) : x + y ≤ 2 * W := by unfold dist at h; omega
theorem dist_dn {W x y : Nat} (h : dist W x ≤ dist W y) (hxy : x < y) : 2 * W ≤ x + y := by unfold dist at h; omega
theorem dist_mid {W x y : Nat} (h : x + y = 2 * W) : dist W x = dist W y := by unfold dist; (first | lia | omega)
theorem between {a b c d : Nat} (h1 : a < b) (h2 : c < d) (h3 : c ≤ a) (h4 : d ≤ b) (h : b + a ≤ d + c) : b = d ∧ a = c := by (first | lia | omega)
theorem near_mono {W₁ D₁ t₁ W₂ D₂ t₂ : Nat} (hD₁ : 0 < D₁) (hD₂ : 0 < D₂) (h₁ : Near W₁ D₁ t₁) (h₂ : Near W₂ D₂ t₂) (h : W₁ * D₂ ≤ W₂ * D₁) : t₁ ≤ t₂ := by
  rcases Nat.lt_or_ge t₂ t₁ with hlt | hge
  · exfalso
    obtain ⟨a1, a2⟩ := h₁ (t₁ - 1)
    obtain ⟨b1, b2⟩ := h₂ (t₂ + 1)
    have v1 : V (t₁ - 1) < V t₁ := V_lt (Nat.sub_lt (Nat.zero_lt_of_lt hlt) Nat.one_pos)
    have v2 : V t₂ < V (t₂ + 1) := V_succ t₂
    have v3 : V t₂ ≤ V (t₁ - 1) := V_mono (Nat.le_sub_one_of_lt hlt)
    have v4 : V (t₂ + 1) ≤ V t₁ := V_mono hlt
    have c1 := dist_up a1 (Nat.mul_lt_mul_of_pos_left v1 hD₁)
    have c2 := dist_dn b1 (Nat.mul_lt_mul_of_pos_left v2 hD₂)
    have g : (D₁ * D₂) * (V t₁ + V (t₁ - 1)) ≤ (D₁ * D₂) * (V (t₂ + 1) + V t₂) := by
      calc (D₁ * D₂) * (V t₁ + V (t₁ - 1)) = D₂ * (D₁ * V t₁ + D₁ * V (t₁ - 1)) := by rw [← Nat.mul_add]; ac_rfl
        _ ≤ D₂ * (2 * W₁) := Nat.mul_le_mul_left _ c1
        _ = 2 * (W₁ * D₂) := by ac_rfl
        _ ≤ 2 * (W₂ * D₁) := Nat.mul_le_mul_left 2 h
        _ = D₁ * (2 * W₂) := by ac_rfl
        _ ≤ D₁ * (D₂ * V t₂ + D₂ * V (t₂ + 1)) := Nat.mul_le_mul_left _ c2
        _ = (D₁ * D₂) * (V (t₂ + 1) + V t₂) := by rw [← Nat.mul_add]; ac_rfl
    obtain ⟨k1, k4⟩ := between v1 v2 v3 v4 (Nat.le_of_mul_le_mul_left g (Nat.mul_pos hD₁ hD₂))
    have hD : 0 < D₁ * D₂ := Nat.mul_pos hD₁ hD₂
    have m1 : D₁ * V t₁ + D₁ * V (t₁ - 1) = 2 * W₁ := by
      refine Nat.le_antisymm c1 (Nat.le_of_mul_le_mul_left ?_ hD₂)
      calc D₂ * (2 * W₁) = 2 * (W₁ * D₂) := by ac_rfl
        _ ≤ 2 * (W₂ * D₁) := Nat.mul_le_mul_left 2 h
        _ = D₁ * (2 * W₂) := by ac_rfl
        _ ≤ D₁ * (D₂ * V t₂ + D₂ * V (t₂ + 1)) := Nat.mul_le_mul_left _ c2
        _ = D₂ * (D₁ * V t₁ + D₁ * V (t₁ - 1)) := by rw [k1, k4, ← Nat.mul_add, ← Nat.mul_add, Nat.add_comm]; ac_rfl
    have m2 : D₂ * V t₂ + D₂ * V (t₂ + 1) = 2 * W₂ := by
      refine Nat.le_antisymm (Nat.le_of_mul_le_mul_left ?_ hD₁) c2
      calc D₁ * (D₂ * V t₂ + D₂ * V (t₂ + 1)) = D₂ * (D₁ * V t₁ + D₁ * V (t₁ - 1)) := by rw [k1, k4, ← Nat.mul_add, ← Nat.mul_add, Nat.add_comm]; ac_rfl
        _ ≤ D₂ * (2 * W₁) := Nat.mul_le_mul_left _ c1
        _ = 2 * (W₁ * D₂) := by ac_rfl
        _ ≤ 2 * (W₂ * D₁) := Nat.mul_le_mul_left 2 h
        _ = D₁ * (2 * W₂) := by ac_rfl
    have p1 := a2 (Nat.ne_of_lt v1) (dist_mid m1)
    have p2 := b2 (Nat.ne_of_gt v2) (dist_mid m2)
    have k2 : t₁ = t₂ + 1 := V_inj k1
    clear a1 a2 b1 b2 v1 v2 v3 v4 c1 c2 g k1 k4 m1 m2 h h₁ h₂
    omega
  · exact hge
theorem near_zero {D t : Nat} (hD : 0 < D) (h : Near 0 D t) : V t = 0 := by
  have := (h 0).1
  rw [V_zero] at this
  unfold dist at this
  have : D * V t = 0 := by (first | lia | omega)
  rcases Nat.mul_eq_zero.mp this with h | h
  · (first | lia | omega)
  · exact h

structure Rd (r : UInt64) (W : Int) (D : Nat) : Prop where
  fi : Fi r
  pos : 0 < D
  at_ : ∃ t, t < infMag ∧ Near W.natAbs D t ∧ val r = sgn (decide (W < 0)) (V t)

theorem Rd.mono {r r' : UInt64} {W W' : Int} {D D' : Nat} (h : Rd r W D) (k : Rd r' W' D') (hle : W * D' ≤ W' * D) : val r ≤ val r' := by
  obtain ⟨t, ht, hn, hv⟩ := h.at_
  obtain ⟨t', ht', hn', hv'⟩ := k.at_
  have hD := h.pos
  have hD' := k.pos
  rw [hv, hv']
  by_cases h0 : W < 0 <;> by_cases h0' : W' < 0
  · have : W'.natAbs * D ≤ W.natAbs * D' := by
      have e1 : ((W'.natAbs * D : Nat) : Int) = -(W' * D) := by rw [Int.natCast_mul, Int.ofNat_natAbs_of_nonpos (by (first | lia | omega)), Int.neg_mul]
      have e2 : ((W.natAbs * D' : Nat) : Int) = -(W * D') := by rw [Int.natCast_mul, Int.ofNat_natAbs_of_nonpos (by (first | lia | omega)), Int.neg_mul]
      (first | lia | omega)
    have := V_mono (near_mono hD' hD hn' hn this)
    simp only [sgn, h0, h0', decide_true, if_true]
    (first | lia | omega)
  · simp only [sgn, h0, h0', decide_true, decide_false, if_true, Bool.false_eq_true, if_false]
    (first | lia | omega)
  · exfalso
    have e1 : 0 ≤ W * D' := Int.mul_nonneg (by (first | lia | omega)) (by (first | lia | omega))
    have e2 : W' * D < 0 := Int.mul_neg_of_neg_of_pos h0' (by (first | lia | omega))
    (first | lia | omega)
  · have : W.natAbs * D' ≤ W'.natAbs * D := by
      have e1 : ((W'.natAbs * D : Nat) : Int) = W' * D := by rw [Int.natCast_mul, Int.natAbs_of_nonneg (by (first | lia | omega))]
      have e2 : ((W.natAbs * D' : Nat) : Int) = W * D' := by rw [Int.natCast_mul, Int.natAbs_of_nonneg (by (first | lia | omega))]
      (first | lia | omega)
    have := V_mono (near_mono hD hD' hn hn' this)
    simp only [sgn, h0, h0', decide_false, Bool.false_eq_true, if_false]
    (first | lia | omega)
theorem Rd.same {r r' : UInt64} {W W' : Int} {D D' : Nat} (h : Rd r W D) (k : Rd r' W' D') (he : W * D' = W' * D) : val r = val r' :=
  Int.le_antisymm (h.mono k (Int.le_of_eq he)) (k.mono h (Int.le_of_eq he.symm))
theorem Rd.self {y : UInt64} (hy : Fi y) : Rd y (val y) 1 := by
  refine ⟨hy, Nat.one_pos, ?_⟩
  obtain ⟨s, t, ht, rfl⟩ := fi_pack_of hy
  have hv := (fi_pack (s := s) ht).2
  have ha : (val (pack s t)).natAbs = V t := by rw [hv, sgn_natAbs]
  refine ⟨t, ht, fun t' => ⟨by rw [ha]; unfold dist; (first | lia | omega), fun h1 h2 => absurd h2 (by rw [ha]; unfold dist; (first | lia | omega))⟩, ?_⟩
  rw [hv]
  cases s with
  | false =>
    have : ¬ sgn false (V t) < 0 := by simp only [sgn, Bool.false_eq_true, if_false]; (first | lia | omega)
    simp only [this, decide_false]
  | true =>
    by_cases h0 : V t = 0
    · rw [h0]; simp [sgn]
    · have : sgn true (V t) < 0 := by simp only [sgn, if_true]; (first | lia | omega)
      simp only [this, decide_true]
theorem Rd.ge {r y : UInt64} {W : Int} {D : Nat} (h : Rd r W D) (hy : Fi y) (hle : val y * D ≤ W) : val y ≤ val r := (Rd.self hy).mono h (by simpa using hle)
theorem Rd.le {r y : UInt64} {W : Int} {D : Nat} (h : Rd r W D) (hy : Fi y) (hle : W ≤ val y * D) : val r ≤ val y := h.mono (Rd.self hy) (by simpa using hle)

theorem right_rd {r : UInt64} {neg : Bool} {W D Z : Nat} {S : Int} (h : Right r neg W D) (hD : 0 < D) (hW : W ≤ D * Z) (hz : Rep Z) (ha : S.natAbs = W) (hs : W ≠ 0 → neg = decide (S < 0)) : Rd r S D := by
  have hf := (right_fi h hD hW hz).1
  obtain ⟨t, rfl, ht, hov, hn⟩ := h
  have hlt : t < infMag := by
    rcases Nat.lt_or_eq_of_le ht with h | h
    · exact h
    · exfalso
      obtain ⟨a, m, e, hd⟩ := hf
      rw [h] at hd
      cases neg
      · have h2 : decode (pack false infMag) = .inf false := by kernel_rfl
        rw [h2] at hd; cases hd
      · have h2 : decode (pack true infMag) = .inf true := by kernel_rfl
        rw [h2] at hd; cases hd
  refine ⟨hf, hD, t, hlt, ?_, ?_⟩
  · rw [ha]
    exact hn hlt
  · rw [(fi_pack (s := neg) hlt).2]
    by_cases h0 : W = 0
    · have := near_zero hD (by have := hn hlt; rw [h0] at this; exact this)
      rw [this]
      cases neg <;> cases decide (S < 0) <;> rfl
    · rw [hs h0]
theorem Rd.zero (s : Bool) : Rd (zero s) 0 1 := by
  have h := val_zero s
  refine ⟨h.1, Nat.one_pos, 0, by decide, fun t' => ⟨by rw [V_zero]; unfold dist; simp, fun _ _ => rfl⟩, ?_⟩
  rw [h.2, V_zero]
  rfl
noncomputable def big : Nat := 2 ^ 53 * TT
theorem rep_big : Rep big := rep_TT (Nat.le_refl _)
theorem Rd.add {x y : UInt64} (hx : Fi x) (hy : Fi y) (hb : (val x + val y).natAbs ≤ big) : Rd (add x y) (val x + val y) 1 := by
  obtain ⟨a, m, e, hx⟩ := hx
  obtain ⟨b, k, f, hy⟩ := hy
  have h := add_right hx hy
  by_cases h0 : val x + val y = 0
  · rw [h.1 h0, h0]; exact Rd.zero _
  · exact right_rd (h.2 h0) Nat.one_pos (by omega) rep_big rfl fun _ => rfl
theorem Rd.sub {x y : UInt64} (hx : Fi x) (hy : Fi y) (hb : (val x - val y).natAbs ≤ big) : Rd (sub x y) (val x - val y) 1 := by
  obtain ⟨a, m, e, hx⟩ := hx
  obtain ⟨b, k, f, hy⟩ := hy
  have h := sub_right hx hy
  by_cases h0 : val x - val y = 0
  · rw [h.1 h0, h0]; exact Rd.zero _
  · exact right_rd (h.2 h0) Nat.one_pos (by omega) rep_big rfl fun _ => rfl
theorem sgn_neg {x : UInt64} {a : Bool} {m : Nat} {e : Int} (hx : decode x = .fin a m e) (h0 : val x ≠ 0) : a = decide (val x < 0) := by
  have := val_sgn hx
  generalize (val x).natAbs = n at *
  rw [this] at h0 ⊢
  cases a
  · have : ¬ sgn false n < 0 := by simp only [sgn, Bool.false_eq_true, if_false]; (first | lia | omega)
    simp [this]
  · have : sgn true n < 0 := by
      simp only [sgn, if_true] at h0 ⊢
      (first | lia | omega)
    simp [this]
theorem mul_neg_iff {a b : Int} (ha : a ≠ 0) (hb : b ≠ 0) : (decide (a < 0) != decide (b < 0)) = decide (a * b < 0) := by
  by_cases h1 : a < 0 <;> by_cases h2 : b < 0
  · have : ¬ a * b < 0 := by have := Int.mul_pos_of_neg_of_neg h1 h2; (first | lia | omega)
    simp [h1, h2, this]
  · have : a * b < 0 := Int.mul_neg_of_neg_of_pos h1 (by (first | lia | omega))
    simp [h1, h2, this]
  · have : a * b < 0 := Int.mul_neg_of_pos_of_neg (by (first | lia | omega)) h2
    simp [h1, h2, this]
  · have : ¬ a * b < 0 := by have := Int.mul_nonneg (a := a) (b := b) (by (first | lia | omega)) (by (first | lia | omega)); (first | lia | omega)
    simp [h1, h2, this]
theorem Rd.mul {x y : UInt64} (hx : Fi x) (hy : Fi y) (hb : (val x * val y).natAbs ≤ TT * big) : Rd (mul x y) (val x * val y) TT := by
  obtain ⟨a, m, e, hx⟩ := hx
  obtain ⟨b, k, f, hy⟩ := hy
  refine right_rd (mul_right hx hy) TT_pos (by rw [← Int.natAbs_mul]; exact hb) rep_big (Int.natAbs_mul ..) fun h0 => ?_
  have h1 : val x ≠ 0 := fun h => h0 (by rw [h]; simp)
  have h2 : val y ≠ 0 := fun h => h0 (by rw [h]; simp)
  rw [sgn_neg hx h1, sgn_neg hy h2]
  exact mul_neg_iff h1 h2
theorem Rd.div {x y : UInt64} (hx : Fi x) (hy : Fi y) (h0 : 0 < val y) (hb : (val x).natAbs ≤ (val y).natAbs * 2 ^ 53) : Rd (div x y) (val x * TT) (val y).toNat := by
  obtain ⟨a, m, e, hx⟩ := hx
  obtain ⟨b, k, f, hy⟩ := hy
  have hk : k ≠ 0 := by
    rintro rfl
    have := val_natAbs hy
    simp at this
    (first | lia | omega)
  have e1 : (val y).toNat = (val y).natAbs := by (first | lia | omega)
  rw [e1]
  refine right_rd (Z := big) (div_right hx hy hk) (by (first | lia | omega)) ?_ rep_big (by rw [Int.natAbs_mul]; rfl) fun h => ?_
  · unfold big
    calc (val x).natAbs * 2 ^ 1074 ≤ (val y).natAbs * 2 ^ 53 * 2 ^ 1074 := Nat.mul_le_mul_right _ hb
      _ = (val y).natAbs * (2 ^ 53 * TT) := by rw [Nat.mul_assoc]; rfl
  · have h1 : val x ≠ 0 := fun h' => h (by rw [h']; simp)
    have hT : (0 : Int) < TT := by have := TT_pos; (first | lia | omega)
    rw [sgn_neg hx h1, sgn_neg hy (by (first | lia | omega))]
    have : ¬ val y < 0 := by (first | lia | omega)
    simp only [this, decide_false, Bool.bne_false]
    by_cases hn : val x < 0
    · have : val x * TT < 0 := Int.mul_neg_of_neg_of_pos hn hT
      simp [hn, this]
    · have : ¬ val x * TT < 0 := by have := Int.mul_nonneg (a := val x) (b := TT) (by (first | lia | omega)) (by (first | lia | omega)); (first | lia | omega)
      simp [hn, this]
end Mine
namespace Mine
open PySem PySem.Float64

theorem TT_posI : (0 : Int) < TT := by have := TT_pos; (first | lia | omega)
theorem dist_scale (k a b : Nat) : dist (k * a) (k * b) = k * dist a b := by
  unfold dist
  rw [← Nat.mul_sub, ← Nat.mul_sub, ← Nat.mul_add]
theorem near_congr {W D W' D' t : Nat} (hD : 0 < D) (hD' : 0 < D') (he : W * D' = W' * D) (h : Near W D t) : Near W' D' t := by
  have key : ∀ u, D * dist W' (D' * V u) = D' * dist W (D * V u) := by
    intro u
    rw [← dist_scale, ← dist_scale]
    have e1 : D * W' = D' * W := by rw [Nat.mul_comm D, ← he, Nat.mul_comm]
    have e2 : D * (D' * V u) = D' * (D * V u) := by ac_rfl
    rw [e1, e2]
  intro t'
  have k1 := key t
  have k2 := key t'
  obtain ⟨h1, h2⟩ := h t'
  constructor
  · have := Nat.mul_le_mul_left D' h1
    rw [← k1, ← k2] at this
    exact Nat.le_of_mul_le_mul_left this hD
  · intro h3 h4
    refine h2 h3 ?_
    rw [h4, k2] at k1
    exact (Nat.eq_of_mul_eq_mul_left hD' k1).symm
theorem Rd.congr {r : UInt64} {W W' : Int} {D D' : Nat} (h : Rd r W D) (hD' : 0 < D') (he : W * D' = W' * D) : Rd r W' D' := by
  obtain ⟨t, ht, hn, hv⟩ := h.at_
  have hD := h.pos
  have e1 : W.natAbs * D' = W'.natAbs * D := by
    have := congrArg Int.natAbs he
    rw [Int.natAbs_mul, Int.natAbs_mul] at this
    simpa using this
  have e2 : decide (W < 0) = decide (W' < 0) := by
    have a1 : W < 0 ↔ W * D' < 0 := by
      constructor
      · intro h; exact Int.mul_neg_of_neg_of_pos h (by omega)
      · intro h
        by_cases h1 : W < 0
        · exact h1
        · have := Int.mul_nonneg (a := W) (b := D') (by omega) (by omega); omega
    have a2 : W' < 0 ↔ W' * D < 0 := by
      constructor
      · intro h; exact Int.mul_neg_of_neg_of_pos h (by omega)
      · intro h
        by_cases h1 : W' < 0
        · exact h1
        · have := Int.mul_nonneg (a := W') (b := D) (by omega) (by omega); omega
    rw [decide_eq_decide, a1, a2, he]
  exact ⟨h.fi, hD', t, ht, near_congr hD hD' e1 hn, by rw [hv, e2]⟩

structure In (x : UInt64) (K J : Int) (e : Nat) : Prop where
  fi : Fi x
  lo : K * TT ≤ val x * 2 ^ e
  hi : val x * 2 ^ e ≤ J * TT
theorem Is.in {x : UInt64} {n : Int} {e : Nat} (h : Is x n e) : In x n n e := ⟨h.fi, Int.le_of_eq h.eq.symm, Int.le_of_eq h.eq⟩
theorem In.is {x : UInt64} {n : Int} {e : Nat} (h : In x n n e) : Is x n e := ⟨h.fi, Int.le_antisymm h.hi h.lo⟩
noncomputable def fl (K : Int) (e : Nat) : UInt64 := ofFrac (decide (K < 0) != decide ((2 ^ e : Int) < 0)) K.natAbs (2 ^ e : Int).natAbs
theorem fl_is {K : Int} {e : Nat} (hK : K.natAbs ≤ 2 ^ 53) (he : e ≤ 1074) : Is (fl K e) K e := Is.div (p := K) (q := 2 ^ e) (pow_pos_int e) rfl hK he
theorem Rd.in {r : UInt64} {W K J : Int} {D e : Nat} (h : Rd r W D) (hK : K.natAbs ≤ 2 ^ 53) (hJ : J.natAbs ≤ 2 ^ 53) (he : e ≤ 1074) (h1 : K * TT * D ≤ W * 2 ^ e) (h2 : W * 2 ^ e ≤ J * TT * D) : In r K J e := by
  have iK := fl_is hK he
  have iJ := fl_is hJ he
  have p := pow_pos_int e
  refine ⟨h.fi, ?_, ?_⟩
  · rw [← iK.eq]
    refine Int.mul_le_mul_of_nonneg_right (h.ge iK.fi ?_) (Int.le_of_lt p)
    refine Int.le_of_mul_le_mul_right ?_ p
    calc val (fl K e) * D * 2 ^ e = val (fl K e) * 2 ^ e * D := Int.mul_right_comm _ _ _
      _ = K * TT * D := by rw [iK.eq]
      _ ≤ W * 2 ^ e := h1
  · rw [← iJ.eq]
    refine Int.mul_le_mul_of_nonneg_right (h.le iJ.fi ?_) (Int.le_of_lt p)
    refine Int.le_of_mul_le_mul_right ?_ p
    calc W * 2 ^ e ≤ J * TT * D := h2
      _ = val (fl J e) * 2 ^ e * D := by rw [iJ.eq]
      _ = val (fl J e) * D * 2 ^ e := Int.mul_right_comm _ _ _
theorem In.small {x : UInt64} {K J : Int} {e k : Nat} (h : In x K J e) (hK : -(k : Int) * 2 ^ e ≤ K) (hJ : J ≤ (k : Int) * 2 ^ e) : (val x).natAbs ≤ k * TT := by
  have p := pow_pos_int e
  have T := TT_posI
  have a1 : -(k : Int) * TT ≤ val x := by
    refine Int.le_of_mul_le_mul_right ?_ p
    calc -(k : Int) * TT * 2 ^ e = -(k : Int) * 2 ^ e * TT := Int.mul_right_comm _ _ _
      _ ≤ K * TT := Int.mul_le_mul_of_nonneg_right hK (Int.le_of_lt T)
      _ ≤ _ := h.lo
  have a2 : val x ≤ (k : Int) * TT := by
    refine Int.le_of_mul_le_mul_right ?_ p
    calc val x * 2 ^ e ≤ J * TT := h.hi
      _ ≤ (k : Int) * 2 ^ e * TT := Int.mul_le_mul_of_nonneg_right hJ (Int.le_of_lt T)
      _ = (k : Int) * TT * 2 ^ e := Int.mul_right_comm _ _ _
  rw [Int.neg_mul] at a1
  have e1 : ((k * TT : Nat) : Int) = (k : Int) * TT := by simp
  omega
theorem abs_le_pow {K : Int} {e : Nat} (h : K.natAbs ≤ 2 ^ 53) : -((2 ^ 53 : Nat) : Int) * 2 ^ e ≤ K ∧ K ≤ ((2 ^ 53 : Nat) : Int) * 2 ^ e := by
  have p : (1 : Int) ≤ 2 ^ e := pow_pos_int e
  have : ((2 ^ 53 : Nat) : Int) * 1 ≤ ((2 ^ 53 : Nat) : Int) * 2 ^ e := Int.mul_le_mul_of_nonneg_left p (by omega)
  rw [Int.neg_mul]
  omega
theorem In.fits {x : UInt64} {K J : Int} {e : Nat} (h : In x K J e) (hK : K.natAbs ≤ 2 ^ 53) (hJ : J.natAbs ≤ 2 ^ 53) : (val x).natAbs ≤ 2 ^ 53 * TT := h.small (abs_le_pow hK).1 (abs_le_pow hJ).2
theorem In.add {x y : UInt64} {K J K' J' : Int} {e : Nat} (h : In x K J e) (k : In y K' J' e) (hK : (K + K').natAbs ≤ 2 ^ 53) (hJ : (J + J').natAbs ≤ 2 ^ 53) (he : e ≤ 1074) : In (add x y) (K + K') (J + J') e := by
  have a1 : (K + K') * TT ≤ (val x + val y) * 2 ^ e := by rw [Int.add_mul, Int.add_mul]; exact Int.add_le_add h.lo k.lo
  have a2 : (val x + val y) * 2 ^ e ≤ (J + J') * TT := by rw [Int.add_mul, Int.add_mul]; exact Int.add_le_add h.hi k.hi
  have p := pow_pos_int e
  have T := TT_posI
  have hb : (val x + val y).natAbs ≤ big := by
    have b1 : -((2 ^ 53 : Nat) : Int) * TT ≤ val x + val y := by
      refine Int.le_of_mul_le_mul_right ?_ p
      calc _ = -((2 ^ 53 : Nat) : Int) * 2 ^ e * TT := Int.mul_right_comm _ _ _
        _ ≤ (K + K') * TT := Int.mul_le_mul_of_nonneg_right (abs_le_pow hK).1 (Int.le_of_lt T)
        _ ≤ _ := a1
    have b2 : val x + val y ≤ ((2 ^ 53 : Nat) : Int) * TT := by
      refine Int.le_of_mul_le_mul_right ?_ p
      calc _ ≤ (J + J') * TT := a2
        _ ≤ ((2 ^ 53 : Nat) : Int) * 2 ^ e * TT := Int.mul_le_mul_of_nonneg_right (abs_le_pow hJ).2 (Int.le_of_lt T)
        _ = _ := Int.mul_right_comm _ _ _
    have e1 : ((big : Nat) : Int) = ((2 ^ 53 : Nat) : Int) * TT := by unfold big; simp
    rw [Int.neg_mul] at b1
    (first | lia | omega)
  exact (Rd.add h.fi k.fi hb).in hK hJ he (by simpa using a1) (by simpa using a2)
theorem In.neg_sub {x y : UInt64} {K J K' J' : Int} {e : Nat} (h : In x K J e) (k : In y K' J' e) (hK : (K - J').natAbs ≤ 2 ^ 53) (hJ : (J - K').natAbs ≤ 2 ^ 53) (he : e ≤ 1074) : In (sub x y) (K - J') (J - K') e := by
  have a1 : (K - J') * TT ≤ (val x - val y) * 2 ^ e := by rw [Int.sub_mul, Int.sub_mul]; exact Int.sub_le_sub h.lo k.hi
  have a2 : (val x - val y) * 2 ^ e ≤ (J - K') * TT := by rw [Int.sub_mul, Int.sub_mul]; exact Int.sub_le_sub h.hi k.lo
  have p := pow_pos_int e
  have T := TT_posI
  have hb : (val x - val y).natAbs ≤ big := by
    have b1 : -((2 ^ 53 : Nat) : Int) * TT ≤ val x - val y := by
      refine Int.le_of_mul_le_mul_right ?_ p
      calc _ = -((2 ^ 53 : Nat) : Int) * 2 ^ e * TT := Int.mul_right_comm _ _ _
        _ ≤ (K - J') * TT := Int.mul_le_mul_of_nonneg_right (abs_le_pow hK).1 (Int.le_of_lt T)
        _ ≤ _ := a1
    have b2 : val x - val y ≤ ((2 ^ 53 : Nat) : Int) * TT := by
      refine Int.le_of_mul_le_mul_right ?_ p
      calc _ ≤ (J - K') * TT := a2
        _ ≤ ((2 ^ 53 : Nat) : Int) * 2 ^ e * TT := Int.mul_le_mul_of_nonneg_right (abs_le_pow hJ).2 (Int.le_of_lt T)
        _ = _ := Int.mul_right_comm _ _ _
    have e1 : ((big : Nat) : Int) = ((2 ^ 53 : Nat) : Int) * TT := by unfold big; simp
    rw [Int.neg_mul] at b1
    (first | lia | omega)
  exact (Rd.sub h.fi k.fi hb).in hK hJ he (by simpa using a1) (by simpa using a2)
end Mine
namespace Mine
open PySem PySem.Float64

theorem six_is : Is 0x4018000000000000 6 0 := by
  have h : Is 4618441417868443648 (6 * 2 ^ 50) 50 := Is.of_decode (a := false) (m := 6 * 2 ^ 50) (ex := -50) (by kernel_rfl) 50 rfl (by decide)
  exact Is.down (e := 0) (k := 50) h
theorem six_val : val 0x4018000000000000 = 6 * TT := by have := six_is.eq; simpa using this
theorem rd_div6 {h y : UInt64} (hf : Fi h) (hb : (val h).natAbs ≤ 2 ^ 53 * TT) (hy : Fi y) (hv : val y = 6 * TT) : Rd (div h y) (val h) 6 := by
  have T := TT_posI
  have := Rd.div hf hy (by (first | lia | omega)) (by rw [hv, Int.natAbs_mul, Int.natAbs_natCast]; show _ ≤ 6 * TT * 2 ^ 53; generalize TT = K at *; (first | lia | omega))
  refine this.congr (by decide) ?_
  rw [hv]
  have : ((6 * (TT : Int)).toNat : Int) = 6 * TT := by (first | lia | omega)
  rw [this]
  grind
theorem rd_six {h : UInt64} (hf : Fi h) (hb : (val h).natAbs ≤ 2 ^ 53 * TT) : Rd (div h 0x4018000000000000) (val h) 6 := rd_div6 hf hb six_is.fi six_val
theorem eqB_of {x y : UInt64} (hx : Fi x) (hy : Fi y) (h : val x = val y) : fcmp .NotEq (Float64.cmp x y) = false := by
  rw [cmp_val hx hy, h]
  simp [fcmp, compare, compareOfLessAndEq]

end Mine
namespace Mine
open PySem PySem.Float64

theorem flt_is {x y : UInt64} {n m : Int} {e : Nat} (h : Is x n e) (k : Is y m e) : flt x y = decide (n < m) := by
  unfold flt
  rw [h.cmp k]
  simp only [compare, compareOfLessAndEq]
  by_cases h1 : n < m
  · simp [h1]
  · by_cases h2 : n = m
    · simp [h2]
    · simp [h1, h2]
theorem eq_is {x y : UInt64} {n m : Int} {e : Nat} (h : Is x n e) (k : Is y m e) : fcmp .Eq (Float64.cmp x y) = decide (n = m) := by
  rw [h.cmp k]
  simp only [fcmp, compare, compareOfLessAndEq]
  by_cases h1 : n < m
  · have : n ≠ m := by omega
    simp [h1, this]
  · by_cases h2 : n = m
    · simp [h2]
    · simp [h1, h2]
noncomputable def imin3 (a b c : Int) : Int := if b < a then (if c < b then c else b) else (if c < a then c else a)
theorem max_is {r g b : UInt64} {R G B : Int} {e : Nat} (hr : Is r R e) (hg : Is g G e) (hb : Is b B e) : Is (fmax3 r g b) (imax3 R G B) e := by
  unfold fmax3 imax3
  rw [flt_is hr hg, flt_is hg hb, flt_is hr hb]
  by_cases h1 : R < G <;> by_cases h2 : G < B <;> by_cases h3 : R < B <;> simp [h1, h2, h3] <;> assumption
theorem min_is {r g b : UInt64} {R G B : Int} {e : Nat} (hr : Is r R e) (hg : Is g G e) (hb : Is b B e) : Is (fmin3 r g b) (imin3 R G B) e := by
  unfold fmin3 imin3
  rw [flt_is hg hr, flt_is hb hg, flt_is hb hr]
  by_cases h1 : G < R <;> by_cases h2 : B < G <;> by_cases h3 : B < R <;> simp [h1, h2, h3] <;> assumption

noncomputable def hueOf (r g b M d : UInt64) : UInt64 :=
  if fcmp .Eq (Float64.cmp r M) then sub (div (sub M b) d) (div (sub M g) d)
  else if fcmp .Eq (Float64.cmp g M) then sub (add 0x4000000000000000 (div (sub M r) d)) (div (sub M b) d)
  else sub (add 0x4010000000000000 (div (sub M g) d)) (div (sub M r) d)
noncomputable def hueFin (h : UInt64) : UInt64 := (divmod (div h 0x4018000000000000) one).2
noncomputable def hsvOf (r g b : UInt64) : List AV :=
  if fcmp .Eq (Float64.cmp (fmin3 r g b) (fmax3 r g b)) then [.float 0, .float 0, .float (fmax3 r g b)]
  else [.float (hueFin (hueOf r g b (fmax3 r g b) (sub (fmax3 r g b) (fmin3 r g b)))), .float (div (sub (fmax3 r g b) (fmin3 r g b)) (fmax3 r g b)), .float (fmax3 r g b)]

theorem two_is : Is 0x4000000000000000 2 0 := by
  have h : Is 4611686018427387904 (2 * 2 ^ 51) 51 := Is.of_decode (a := false) (m := 2 * 2 ^ 51) (ex := -51) (by kernel_rfl) 51 rfl (by decide)
  exact Is.down (e := 0) (k := 51) h
theorem four_is : Is 0x4010000000000000 4 0 := by
  have h : Is 4616189618054758400 (4 * 2 ^ 50) 50 := Is.of_decode (a := false) (m := 4 * 2 ^ 50) (ex := -50) (by kernel_rfl) 50 rfl (by decide)
  exact Is.down (e := 0) (k := 50) h

theorem rd_quot {x d : UInt64} {p s : Int} {e : Nat} (hx : Is x p e) (hd : Is d s e) (hs : 0 < s) (hp : p.natAbs ≤ s.natAbs * 2 ^ 53) : Rd (div x d) (p * TT) s.natAbs := by
  have T := TT_posI
  have P := pow_pos_int e
  have hv : 0 < val d := by
    have h1 : 0 < val d * 2 ^ e := by rw [hd.eq]; exact Int.mul_pos hs T
    refine Int.lt_of_mul_lt_mul_right (a := 2 ^ e) ?_ (Int.le_of_lt P)
    rw [Int.zero_mul]; exact h1
  have e1 : (val x).natAbs * (2 ^ e : Int).natAbs = p.natAbs * TT := by
    have := congrArg Int.natAbs hx.eq
    rw [Int.natAbs_mul, Int.natAbs_mul] at this
    simpa using this
  have e2 : (val d).natAbs * (2 ^ e : Int).natAbs = s.natAbs * TT := by
    have := congrArg Int.natAbs hd.eq
    rw [Int.natAbs_mul, Int.natAbs_mul] at this
    simpa using this
  have hb : (val x).natAbs ≤ (val d).natAbs * 2 ^ 53 := by
    have hq : 0 < (2 ^ e : Int).natAbs := by (first | lia | omega)
    refine Nat.le_of_mul_le_mul_right ?_ hq
    calc (val x).natAbs * (2 ^ e : Int).natAbs = p.natAbs * TT := e1
      _ ≤ s.natAbs * 2 ^ 53 * TT := Nat.mul_le_mul_right _ hp
      _ = s.natAbs * TT * 2 ^ 53 := Nat.mul_right_comm _ _ _
      _ = (val d).natAbs * (2 ^ e : Int).natAbs * 2 ^ 53 := by rw [e2]
      _ = _ := Nat.mul_right_comm _ _ _
  refine (Rd.div hx.fi hd.fi hv hb).congr (by (first | lia | omega)) ?_
  have e3 : ((val d).toNat : Int) = val d := by (first | lia | omega)
  have e4 : ((s.natAbs : Nat) : Int) = s := by (first | lia | omega)
  rw [e3, e4]
  refine Int.eq_of_mul_eq_mul_right (Int.ne_of_gt P) ?_
  calc val x * TT * s * 2 ^ e = (val x * 2 ^ e) * (TT * s) := by grind
    _ = p * TT * (TT * s) := by rw [hx.eq]
    _ = p * TT * (s * TT) := by rw [Int.mul_comm s]
    _ = p * TT * (val d * 2 ^ e) := by rw [hd.eq]
    _ = _ := by grind
theorem quot_one {x d : UInt64} {s : Int} {e : Nat} (hx : Is x s e) (hd : Is d s e) (hs : 0 < s) : Is (div x d) 1 0 := by
  have h := rd_quot hx hd hs (by (first | lia | omega))
  have e4 : ((s.natAbs : Nat) : Int) = s := by (first | lia | omega)
  exact (h.in (K := 1) (J := 1) (e := 0) (by decide) (by decide) (by decide) (by rw [e4]; apply Int.le_of_eq; grind) (by rw [e4]; apply Int.le_of_eq; grind)).is
section
variable {p s F C : Int} {u d x : UInt64} {e : Nat}
end
end Mine
namespace Mine
open PySem PySem.Float64

end Mine
namespace Mine
open PySem PySem.Float64


end Mine
namespace Mine
open PySem PySem.Float64


end Mine
namespace Mine
open PySem PySem.Float64

section
variable {r g b : UInt64} {l m h F C : Int} {e : Nat}
structure Set3 (l m h : Int) (e : Nat) : Prop where
  l0 : 0 ≤ l
  lm : l ≤ m
  mh : m ≤ h
  lh : l < h
  h1 : h ≤ 2 ^ 53
  he : e ≤ 1074
variable (S : Set3 l m h e)
include S

end

section
variable {r g b : UInt64} {l m h : Int} {e : Nat}
end
end Mine
namespace Mine
open PySem PySem.Float64

theorem halfEven_at {n d q : Nat} (hd : 0 < d) (h : 2 * dist n (d * q) < d) : halfEven n d = q := by
  have h1 := halfEven_nearest n d hd q
  rcases Nat.lt_trichotomy (halfEven n d) q with hl | he | hg
  · exfalso
    have h2 : d * halfEven n d + d ≤ d * q := by
      rw [← Nat.mul_succ]; exact Nat.mul_le_mul_left d hl
    unfold dist at h h1
    omega
  · exact he
  · exfalso
    have h2 : d * q + d ≤ d * halfEven n d := by
      rw [← Nat.mul_succ]; exact Nat.mul_le_mul_left d hg
    unfold dist at h h1
    omega
theorem shift_val {x : UInt64} {a : Bool} {m : Nat} {e : Int} (hx : decode x = .fin a m e) : (shift m 1 e).1 * TT = (val x).natAbs * (shift m 1 e).2 ∧ 0 < (shift m 1 e).2 := by
  have h1 := shift_one m e 1074 (decode_ge hx)
  have h2 := val_natAbs hx
  refine ⟨?_, shift_pos _ _ _ (by decide)⟩
  rw [h2]
  exact h1
theorem round_at {x : UInt64} {n : Nat} (hx : Fi x) (h : 2 * (val x - n * TT).natAbs < TT) : Flt.toInt nearestOf x = n := by
  obtain ⟨a, m, e, hd⟩ := hx
  have hv := val_sgn hd
  obtain ⟨h1, h2⟩ := shift_val hd
  rw [Flt.toInt_fin hd]
  unfold nearestOf
  simp only
  generalize (shift m 1 e).1 = A at *
  generalize (shift m 1 e).2 = B at *
  have T := TT_pos
  have key : 2 * dist A (B * n) < B := by
    have e1 : TT * dist A (B * n) = B * dist (val x).natAbs (TT * n) := by
      rw [← dist_scale, ← dist_scale]
      have : TT * A = B * (val x).natAbs := by rw [Nat.mul_comm, h1, Nat.mul_comm]
      rw [this, show TT * (B * n) = B * (TT * n) by ac_rfl]
    have e2 : 2 * dist (val x).natAbs (TT * n) < TT := by
      have : dist (val x).natAbs (TT * n) ≤ (val x - n * TT).natAbs := by
        unfold dist
        rw [Nat.mul_comm TT n]
        have : ((n * TT : Nat) : Int) = (n : Int) * TT := by simp
        rw [← this]
        omega
      omega
    have e3 : TT * (2 * dist A (B * n)) < TT * B := by
      calc TT * (2 * dist A (B * n)) = 2 * (TT * dist A (B * n)) := by ac_rfl
        _ = B * (2 * dist (val x).natAbs (TT * n)) := by rw [e1]; ac_rfl
        _ < B * TT := Nat.mul_lt_mul_of_pos_left e2 h2
        _ = TT * B := Nat.mul_comm _ _
    exact Nat.lt_of_mul_lt_mul_left e3
  rw [halfEven_at h2 key]
  cases a with
  | false => simp [sgn]
  | true =>
    by_cases hn : n = 0
    · subst hn; simp [sgn]
    · exfalso
      rw [hv] at h
      simp only [sgn, if_true] at h
      have : TT ≤ n * TT := Nat.le_mul_of_pos_left _ (by omega)
      have e : ((n * TT : Nat) : Int) = (n : Int) * TT := by simp
      rw [← e] at h
      omega
end Mine
namespace Mine
open PySem PySem.Float64

end Mine
namespace Mine
open PySem PySem.Float64


theorem fi_fin {x : UInt64} (h : Fi x) : isFinite x = true := by
  obtain ⟨a, m, e, hd⟩ := h
  unfold isFinite
  rw [hd]
theorem ofInt_is {n : Int} (h : n.natAbs ≤ 2 ^ 53) : Is (ofInt n) n 0 := by
  have := Is.div (p := n) (q := 1) (n := n) (e := 0) (by decide) (by simp) h (by decide)
  simpa [ofInt] using this
theorem isZero_is {x : UInt64} {n : Int} {e : Nat} (h : Is x n e) (hn : 0 < n) : isZero x = false := by
  rw [isZero_val h.fi]
  have T := TT_posI
  have : 0 < n * TT := Int.mul_pos hn T
  rw [← h.eq] at this
  have : val x ≠ 0 := by rintro h0; rw [h0] at this; simp at this
  simp [this]
end Mine
namespace Mine
open PySem PySem.Float64


end Mine
namespace Mine
open PySem PySem.Float64


end Mine
namespace Mine
open PySem PySem.Float64

end Mine
namespace Mine
open PySem PySem.Float64

theorem hn2 {T : Int} (hT : 0 < T) : 36028797018963966 * T ≤ 2 * T * 2 ^ 54 := by (first | lia | omega)
end Mine
namespace Mine
open PySem PySem.Float64


section
variable {R G B h D Yr Yg Yb : Int} {M d r g b : UInt64} {e a : Nat}
end
end Mine
namespace Mine
open PySem PySem.Float64


end Mine
namespace Mine
open PySem PySem.Float64

theorem TT_self : (2 : Int) ^ 1074 = TT := by unfold TT; push_cast; rfl
theorem Is.self {x : UInt64} (hx : Fi x) : Is x (val x) 1074 := ⟨hx, by rw [TT_self]⟩
theorem TT_48 : (TT : Int) = 2 ^ 1026 * 2 ^ 48 := by rw [← Int.pow_add]; exact TT_self.symm
theorem In.vals {x : UInt64} {K J : Int} (h : In x K J 48) : K * 2 ^ 1026 ≤ val x ∧ val x ≤ J * 2 ^ 1026 := by
  have h1 := h.lo
  have h2 := h.hi
  rw [TT_48, ← Int.mul_assoc] at h1 h2
  exact ⟨Int.le_of_mul_le_mul_right h1 (by decide), Int.le_of_mul_le_mul_right h2 (by decide)⟩
theorem mul_bounds {x y p q S K J T : Int} (hT : 0 < T) (hx : x * p = S * T) (h1 : K * T ≤ y * q) (h2 : y * q ≤ J * T) (hS : 0 ≤ S) : S * K * T * T ≤ x * y * (p * q) ∧ x * y * (p * q) ≤ S * J * T * T := by
  have e : x * y * (p * q) = S * T * (y * q) := by rw [← hx]; grind
  have ST : 0 ≤ S * T := Int.mul_nonneg hS (Int.le_of_lt hT)
  have g1 := Int.mul_le_mul_of_nonneg_left h1 ST
  have g2 := Int.mul_le_mul_of_nonneg_left h2 ST
  rw [e]
  exact ⟨by rw [show S * K * T * T = S * T * (K * T) by grind]; exact g1, by rw [show S * J * T * T = S * T * (J * T) by grind]; exact g2⟩
theorem nonneg_of {x p S T : Int} (hp : 0 < p) (hT : 0 < T) (hS : 0 ≤ S) (h : S * T ≤ x * p) : 0 ≤ x := by
  refine Int.le_of_mul_le_mul_right (a := p) ?_ hp
  rw [Int.zero_mul]; exact Int.le_trans (Int.mul_nonneg hS (Int.le_of_lt hT)) h
theorem le_of_pow {x B p : Int} (hp : 1 ≤ p) (h0 : 0 ≤ x) (h : x * p ≤ B) : x ≤ B := by
  have := Int.mul_le_mul_of_nonneg_left hp h0
  rw [Int.mul_one] at this
  exact Int.le_trans this h
theorem In.mulE {s f : UInt64} {S K J : Int} {b a : Nat} (hs : Is s S b) (hf : In f K J a) (hS : 0 ≤ S) (hK : 0 ≤ K) (h1 : (S * K).natAbs ≤ 2 ^ 53) (h2 : (S * J).natAbs ≤ 2 ^ 53) (he : b + a ≤ 1074) : In (mul s f) (S * K) (S * J) (b + a) := by
  have T := TT_posI
  obtain ⟨m1, m2⟩ := mul_bounds T hs.eq hf.lo hf.hi hS
  rw [← Int.pow_add] at m1 m2
  have x0 := nonneg_of (pow_pos_int b) T hS (Int.le_of_eq hs.eq.symm)
  have y0 := nonneg_of (pow_pos_int a) T hK hf.lo
  have xy := Int.mul_nonneg x0 y0
  have hb : (val s * val f).natAbs ≤ TT * big := by
    have g1 := le_of_pow (pow_pos_int (b + a)) xy m2
    have g2 : S * J * TT * TT ≤ 2 ^ 53 * TT * TT := Int.mul_le_mul_of_nonneg_right (Int.mul_le_mul_of_nonneg_right (by (first | lia | omega)) (Int.le_of_lt T)) (Int.le_of_lt T)
    have e : ((TT * big : Nat) : Int) = 2 ^ 53 * TT * TT := by
      unfold big
      rw [Int.natCast_mul, Int.natCast_mul, show ((2 ^ 53 : Nat) : Int) = 2 ^ 53 from rfl]
      generalize (TT : Int) = t
      grind
    have g3 := Int.le_trans g1 g2
    rw [← e] at g3
    clear g1 g2 e m1 m2 h1 h2
    (first | lia | omega)
  exact (Rd.mul hs.fi hf.fi hb).in h1 h2 he m1 m2
end Mine
namespace Mine
open PySem PySem.Float64

theorem mul_le {a b s : Int} (hs : 0 < s) (h : a ≤ b) : a * s ≤ b * s := Int.mul_le_mul_of_nonneg_right h (Int.le_of_lt hs)
theorem mul_lt {a b s : Int} (hs : 0 < s) (h : a < b) : a * s < b * s := Int.mul_lt_mul_of_pos_right h hs
theorem of_mul_le {a b s : Int} (hs : 0 < s) (h : a * s ≤ b * s) : a ≤ b := Int.le_of_mul_le_mul_right h hs
theorem of_mul_lt {a b s : Int} (hs : 0 < s) (h : a * s < b * s) : a < b := Int.lt_of_mul_lt_mul_right h (Int.le_of_lt hs)
theorem rd_in {y : UInt64} {p s K J : Int} {f : Nat} (h : Rd y (p * TT) s.natAbs) (hs : 0 < s) (hK : K.natAbs ≤ 2 ^ 53) (hJ : J.natAbs ≤ 2 ^ 53) (hf : f ≤ 1074) (h1 : K * s ≤ p * 2 ^ f) (h2 : p * 2 ^ f ≤ J * s) : In y K J f := by
  have e4 : ((s.natAbs : Nat) : Int) = s := Int.natAbs_of_nonneg (Int.le_of_lt hs)
  refine h.in hK hJ hf ?_ ?_
  · rw [e4, Int.mul_right_comm K, Int.mul_right_comm p]
    exact mul_le TT_posI h1
  · rw [e4, Int.mul_right_comm J, Int.mul_right_comm p]
    exact mul_le TT_posI h2
theorem fdiv_rng (x : Int) {s : Int} (hs : 0 < s) : x.fdiv s * s ≤ x ∧ x < x.fdiv s * s + s := by
  have h1 := Int.mul_fdiv_add_fmod x s
  have r0 := Int.fmod_nonneg_of_pos x hs
  have r1 := Int.fmod_lt_of_pos x hs
  rw [Int.mul_comm] at h1
  omega
theorem natAbs_le {K P : Int} (h0 : 0 ≤ K) (h1 : K ≤ P) (h2 : P ≤ 2 ^ 53) : K.natAbs ≤ 2 ^ 53 := by omega
theorem unit_arith {x P K u s : Int} (hs : 0 < s) (x0 : 0 ≤ x) (x1 : x ≤ P * s) (d1 : K * s ≤ x) (d2 : x < K * s + s) (d3 : u * s ≤ -x) (d4 : -x < u * s + s) : (0 ≤ K ∧ K ≤ -u ∧ -u ≤ P) ∧ x ≤ -u * s ∧ -u * s < x + s := by
  have e : -u * s = -(u * s) := Int.neg_mul ..
  refine ⟨⟨Int.le_of_lt_add_one (of_mul_lt hs ?_), of_mul_le hs (by (first | lia | omega)), Int.le_of_lt_add_one (of_mul_lt hs ?_)⟩, by (first | lia | omega), by (first | lia | omega)⟩
  · rw [Int.add_mul, Int.one_mul, Int.zero_mul]; (first | lia | omega)
  · rw [Int.add_mul, Int.one_mul]; (first | lia | omega)
theorem unit_in {y : UInt64} {p s : Int} (f : Nat) (hf : f ≤ 1074) (hf2 : (2 : Int) ^ f ≤ 2 ^ 53) (h : Rd y (p * TT) s.natAbs) (hs : 0 < s) (h0 : 0 ≤ p) (h1 : p ≤ s) : ∃ K J, In y K J f ∧ (0 ≤ K ∧ K ≤ J ∧ J ≤ 2 ^ f) ∧ p * 2 ^ f < K * s + s ∧ J * s < p * 2 ^ f + s := by
  have d1 := fdiv_rng (p * 2 ^ f) hs
  have d2 := fdiv_rng (-(p * 2 ^ f)) hs
  have P := pow_pos_int f
  have hx : p * 2 ^ f ≤ 2 ^ f * s := by rw [Int.mul_comm (2 ^ f)]; exact mul_le P h1
  have a := unit_arith hs (Int.mul_nonneg h0 (Int.le_of_lt P)) hx d1.1 d1.2 d2.1 d2.2
  exact ⟨_, _, rd_in h hs (natAbs_le a.1.1 (Int.le_trans a.1.2.1 a.1.2.2) hf2) (natAbs_le (Int.le_trans a.1.1 a.1.2.1) a.1.2.2 hf2) hf d1.1 a.2.1, a.1, d1.2, a.2.2⟩
theorem third_lo (x : Int) : 3 * (2 * x / 3) ≤ 2 * x ∧ 2 * x - 2 ≤ 3 * (2 * x / 3) := by (first | lia | omega)
theorem In.div6 {q : UInt64} {K J : Int} (h : In q K J 48) (h0 : -(2 ^ 48) ≤ K) (h1 : K ≤ J) (h2 : J ≤ 5 * 2 ^ 48) : ∃ A B, In (div q 0x4018000000000000) A B 50 ∧ (2 * K - 2 ≤ 3 * A ∧ 3 * A ≤ 2 * K) ∧ (2 * J ≤ 3 * B ∧ 3 * B ≤ 2 * J + 2) := by
  have r := rd_six h.fi (h.fits (by (first | lia | omega)) (by (first | lia | omega)))
  have t := third_lo K
  have t' := third_lo (-J)
  refine ⟨2 * K / 3, -(2 * (-J) / 3), r.in (by (first | lia | omega)) (by (first | lia | omega)) (by decide) ?_ ?_, ⟨t.2, t.1⟩, by (first | lia | omega)⟩
  · have k := h.lo
    have a := mul_le TT_posI t.1
    rw [Int.mul_assoc, Int.mul_assoc 2] at a
    clear t t' h1 h2 h0 r
    generalize 2 * K / 3 * (TT : Int) = u at *
    generalize K * (TT : Int) = v at *
    (first | lia | omega)
  · have k := h.hi
    have a := mul_le TT_posI t'.1
    rw [Int.mul_assoc, Int.mul_assoc 2, Int.neg_mul] at a
    rw [Int.neg_mul]
    clear t t' h1 h2 h0 r
    generalize 2 * (-J) / 3 * (TT : Int) = u at *
    generalize J * (TT : Int) = v at *
    (first | lia | omega)
theorem In.nonneg {x : UInt64} {A B : Int} (i : In x A B 50) (h : 0 ≤ A) : 0 ≤ val x := by
  have l := Int.le_trans (Int.mul_nonneg h (Int.le_of_lt TT_posI)) i.lo
  exact Int.nonneg_of_mul_nonneg_left l (by decide)
theorem In.lt_of {x : UInt64} {A B n : Int} (i : In x A B 50) (h : B < n * 2 ^ 50) : val x < n * TT := by
  have a := Int.lt_of_le_of_lt i.hi (mul_lt TT_posI h)
  rw [Int.mul_right_comm] at a
  exact of_mul_lt (by decide) a
theorem In.gt_of {x : UInt64} {A B n : Int} (i : In x A B 50) (h : n * 2 ^ 50 < A) : n * TT < val x := by
  have a := Int.lt_of_lt_of_le (mul_lt TT_posI h) i.lo
  rw [Int.mul_right_comm] at a
  exact of_mul_lt (by decide) a
theorem In.same {x y : UInt64} {A B : Int} {e : Nat} (i : In x A B e) (hy : Fi y) (h : val y = val x) : In y A B e := ⟨hy, by rw [h]; exact i.lo, by rw [h]; exact i.hi⟩
theorem six_pos {q : UInt64} {K J : Int} (h : In q K J 48) (h0 : 0 ≤ K) (h1 : K ≤ J) (h2 : J ≤ 5 * 2 ^ 48) : ∃ A B, In (hueFin q) A B 50 ∧ 2 * K - 2 ≤ 3 * A ∧ 3 * B ≤ 2 * J + 2 := by
  obtain ⟨A, B, i, a, b⟩ := h.div6 (by (first | lia | omega)) h1 h2
  have v0 := i.nonneg (by (first | lia | omega))
  have v1 := i.lt_of (n := 1) (by (first | lia | omega))
  rw [Int.one_mul] at v1
  obtain ⟨e1, e2⟩ := (mod_one i.fi).1 v0
  rw [Int.emod_eq_of_lt v0 v1] at e2
  exact ⟨A, B, i.same e1 e2, a.1, b.2⟩
theorem wrap_mod {v t : Int} (h0 : v < 0) (h1 : -t < v) : v % t = v + t := by
  rw [← Int.add_emod_right]
  exact Int.emod_eq_of_lt (by (first | lia | omega)) (by (first | lia | omega))
theorem six_neg {q : UInt64} {K J : Int} (h : In q K J 48) (h0 : -(2 ^ 48) ≤ K) (h1 : K ≤ J) (h2 : J ≤ -2) : ∃ A B, In (hueFin q) A B 50 ∧ 2 * (K + 6 * 2 ^ 48) - 2 ≤ 3 * A ∧ 3 * B ≤ 2 * (J + 6 * 2 ^ 48) + 2 := by
  obtain ⟨A, B, i, a, b⟩ := h.div6 h0 h1 (by (first | lia | omega))
  have b1 : -(2 ^ 50) < A ∧ B < 0 ∧ A ≤ B + 2 := by (first | lia | omega)
  have v0 := i.lt_of (n := 0) (by (first | lia | omega))
  have v1 := i.gt_of (n := -1) (by (first | lia | omega))
  rw [Int.zero_mul] at v0
  rw [Int.neg_mul, Int.one_mul] at v1
  have hm := wrap_mod v0 v1
  obtain ⟨e1, e2, e3⟩ := (mod_one i.fi).2.2 v0 (by rw [hm]; intro e; rw [← Int.add_right_neg (TT : Int), Int.add_comm] at e; exact absurd (Int.add_left_cancel e) (Int.ne_of_gt v1))
  rw [hm, Int.add_sub_cancel] at e3
  have f := (i.same e2 e3).add (one_Is 50).in (by (first | lia | omega)) (by (first | lia | omega)) (by decide)
  rw [← e1] at f
  exact ⟨A + 2 ^ 50, B + 2 ^ 50, f, by (first | lia | omega), by (first | lia | omega)⟩
inductive Form : Nat → Int → Int → UInt64 → Prop
  | minus (i : Nat) (p s : Int) (k y : UInt64) : i = 0 ∨ i = 2 ∨ i = 4 → Is k (i + 1) 0 → Rd y (p * TT) s.natAbs → Form i p s (sub k y)
  | plus (i : Nat) (p s : Int) (k y o : UInt64) : i = 1 ∨ i = 3 → Is k (i + 1) 0 → Is o 1 0 → Rd y (p * TT) s.natAbs → Form i p s (sub (add k y) o)
  | round (p s : Int) (y o : UInt64) : Is o 1 0 → Rd y (p * TT) s.natAbs → Form 5 p s (sub y o)
noncomputable def gone (i : Nat) (p s : Int) : Int := if i % 2 = 0 then s - p else p
structure Pre (g s : Int) (q : UInt64) (i : Nat) (p : Int) : Prop where
  form : Form i p s q
  p0 : 0 ≤ p
  p1 : p ≤ s
  g : g = i * s + gone i p s
  /-- the corners belong to the even sixths, the last one to the round -/
  odd : i % 2 = 1 → p < s ∧ (i < 5 → 0 < p)
  fourth : i = 4 → 0 < p

noncomputable def Sm (x : UInt64) : Prop := Fi x ∧ (val x).natAbs ≤ 10 * TT
theorem Is.sm {x : UInt64} {n : Int} (h : Is x n 0) (hn : n.natAbs ≤ 10) : Sm x := ⟨h.fi, h.abs_le 10 (by simpa using hn)⟩
theorem In.sm {x : UInt64} {K J : Int} {e : Nat} (h : In x K J e) (hK : -(2 ^ e) * 10 ≤ K) (hJ : J ≤ 2 ^ e * 10) : Sm x := ⟨h.fi, h.small (k := 10) (by rw [Int.mul_comm, ← Int.neg_mul_eq_mul_neg, Int.neg_mul_eq_neg_mul]; exact hK) (by rw [Int.mul_comm]; exact hJ)⟩
theorem big_sub {a b : Int} (ha : a.natAbs ≤ 10 * TT) (hb : b.natAbs ≤ 10 * TT) : (a - b).natAbs ≤ big ∧ (a + b).natAbs ≤ big := by
  have h : a.natAbs + b.natAbs ≤ big := by
    refine Nat.le_trans (Nat.add_le_add ha hb) ?_
    rw [← Nat.add_mul]
    exact Nat.mul_le_mul_right _ (by decide)
  exact ⟨Nat.le_trans (Int.natAbs_sub_le a b) h, Nat.le_trans (Int.natAbs_add_le a b) h⟩
theorem sub_same {x y x' y' : UInt64} (hx : Sm x) (hy : Sm y) (fx : Fi x') (fy : Fi y') (ex : val x = val x') (ey : val y = val y') : val (sub x y) = val (sub x' y') := by
  have b := (big_sub hx.2 hy.2).1
  exact (Rd.sub hx.1 hy.1 b).same (Rd.sub fx fy (by rw [← ex, ← ey]; exact b)) (by rw [ex, ey])
theorem add_same {x y x' y' : UInt64} (hx : Sm x) (hy : Sm y) (fx : Fi x') (fy : Fi y') (ex : val x = val x') (ey : val y = val y') : val (add x y) = val (add x' y') := by
  have b := (big_sub hx.2 hy.2).2
  exact (Rd.add hx.1 hy.1 b).same (Rd.add fx fy (by rw [← ex, ← ey]; exact b)) (by rw [ex, ey])
theorem rd_unit {y : UInt64} {p s : Int} (h : Rd y (p * TT) s.natAbs) (hs : 0 < s) (h0 : 0 ≤ p) (h1 : p ≤ s) : In y 0 1 0 := rd_in h hs (by decide) (by decide) (by decide) (by rw [Int.zero_mul]; exact Int.mul_nonneg h0 (by decide)) (by rw [Int.one_mul, Int.pow_zero, Int.mul_one]; exact h1)
theorem rd_same {y y' : UInt64} {p s p' s' : Int} (h : Rd y (p * TT) s.natAbs) (h' : Rd y' (p' * TT) s'.natAbs) (hs : 0 < s) (hs' : 0 < s') (e : p * s' = p' * s) : val y = val y' := by
  refine h.same h' ?_
  have e4 : ((s.natAbs : Nat) : Int) = s := Int.natAbs_of_nonneg (Int.le_of_lt hs)
  have e5 : ((s'.natAbs : Nat) : Int) = s' := Int.natAbs_of_nonneg (Int.le_of_lt hs')
  rw [e4, e5, Int.mul_right_comm, e, Int.mul_right_comm]
theorem six_cases {i : Nat} (h : i = 0 ∨ i = 2 ∨ i = 4) : i ≤ 5 ∧ i % 2 = 0 := by rcases h with rfl | rfl | rfl <;> exact ⟨by decide, rfl⟩
theorem odd_cases {i : Nat} (h : i = 1 ∨ i = 3) : i ≤ 5 ∧ i % 2 = 1 := by rcases h with rfl | rfl <;> exact ⟨by decide, rfl⟩
theorem Form.le {i : Nat} {p s : Int} {q : UInt64} (h : Form i p s q) : i ≤ 5 := by
  cases h with
  | minus _ _ _ _ _ h => exact (six_cases h).1
  | plus _ _ _ _ _ _ h => exact (odd_cases h).1
  | round => exact Nat.le_refl _
theorem c_small {i : Nat} (h : i ≤ 5) : ((i : Int) + 1).natAbs ≤ 10 := by omega
theorem add_unit {k y : UInt64} {i : Nat} (hi : i ≤ 5) (hk : Is k (i + 1) 0) (hy : In y 0 1 0) : In (add k y) ((i : Int) + 1 + 0) (i + 1 + 1) 0 := hk.in.add hy (by omega) (by omega) (by decide)
theorem add_sm {k y : UInt64} {i : Nat} (hi : i ≤ 5) (hk : Is k (i + 1) 0) (hy : In y 0 1 0) : Sm (add k y) := (add_unit hi hk hy).sm (by (first | lia | omega)) (by (first | lia | omega))
theorem unit_sm {y : UInt64} (h : In y 0 1 0) : Sm y := h.sm (by decide) (by decide)
theorem form_same {i : Nat} {p s p' s' : Int} {q q' : UInt64} (hs : 0 < s) (hs' : 0 < s') (p0 : 0 ≤ p) (p1 : p ≤ s) (p0' : 0 ≤ p') (p1' : p' ≤ s') (h : Form i p s q) (h' : Form i p' s' q') (e : p * s' = p' * s) : val q = val q' := by
  cases h with
  | minus _ _ _ k y hi hk hy =>
    cases h' with
    | minus _ _ _ k' y' hi' hk' hy' => exact sub_same (hk.sm (c_small (six_cases hi).1)) (unit_sm (rd_unit hy hs p0 p1)) hk'.fi hy'.fi (hk.val_eq hk') (rd_same hy hy' hs hs' e)
    | plus _ _ _ _ _ _ hi' _ _ _ => exact absurd (six_cases hi).2 (by rw [(odd_cases hi').2]; decide)
    | round _ _ _ _ _ _ => exact absurd (six_cases hi).2 (by decide)
  | plus _ _ _ k y o hi hk ho hy =>
    cases h' with
    | minus _ _ _ k' y' hi' hk' hy' => exact absurd (six_cases hi').2 (by rw [(odd_cases hi).2]; decide)
    | plus _ _ _ k' y' o' hi' hk' ho' hy' =>
      have u := rd_unit hy hs p0 p1
      have c := (odd_cases hi).1
      exact sub_same (add_sm c hk u) (ho.sm (by decide)) (add_sm c hk' (rd_unit hy' hs' p0' p1')).1 ho'.fi (add_same (hk.sm (c_small c)) (unit_sm u) hk'.fi hy'.fi (hk.val_eq hk') (rd_same hy hy' hs hs' e)) (ho.val_eq ho')
    | round _ _ _ _ _ _ => exact absurd hi (by decide)
  | round _ _ y o ho hy =>
    cases h' with
    | minus _ _ _ k' y' hi' hk' hy' => exact absurd (six_cases hi').2 (by decide)
    | plus _ _ _ _ _ _ hi' _ _ _ => exact absurd hi' (by decide)
    | round _ _ y' o' ho' hy' => exact sub_same (unit_sm (rd_unit hy hs p0 p1)) (ho.sm (by decide)) hy'.fi ho'.fi (rd_same hy hy' hs hs' e) (ho.val_eq ho')
theorem Form.fi {i : Nat} {p s : Int} {q : UInt64} (hs : 0 < s) (p0 : 0 ≤ p) (p1 : p ≤ s) (h : Form i p s q) : Fi q := by
  cases h with
  | minus _ _ _ k y hi hk hy => exact (Rd.sub hk.fi hy.fi (big_sub (hk.sm (c_small (six_cases hi).1)).2 (unit_sm (rd_unit hy hs p0 p1)).2).1).fi
  | plus _ _ _ k y o hi hk ho hy =>
    have a := add_sm (odd_cases hi).1 hk (rd_unit hy hs p0 p1)
    exact (Rd.sub a.1 ho.fi (big_sub a.2 (ho.sm (by decide)).2).1).fi
  | round _ _ y o ho hy => exact (Rd.sub hy.fi ho.fi (big_sub (unit_sm (rd_unit hy hs p0 p1)).2 (ho.sm (by decide)).2).1).fi
theorem gone_rng {i : Nat} {p s : Int} (p0 : 0 ≤ p) (p1 : p ≤ s) : 0 ≤ gone i p s ∧ gone i p s ≤ s := by
  unfold gone
  split
  · exact ⟨Int.sub_nonneg_of_le p1, Int.sub_le_self _ p0⟩
  · exact ⟨p0, p1⟩
theorem Pre.lo {g s p : Int} {q : UInt64} {i : Nat} (h : Pre g s q i p) : i * s ≤ g := by rw [h.g]; exact Int.le_add_of_nonneg_right (gone_rng h.p0 h.p1).1
theorem Pre.up {g s p : Int} {q : UInt64} {i : Nat} (h : Pre g s q i p) : g ≤ (i + 1) * s := by rw [h.g, Int.add_mul, Int.one_mul]; exact Int.add_le_add_left (gone_rng h.p0 h.p1).2 _
theorem Pre.edge {g s p g' s' p' : Int} {q q' : UInt64} {i i' : Nat} (h : Pre g s q i p) (h' : Pre g' s' q' i' p') (e : i' = i + 1) : g < (i + 1) * s ∨ i' * s' < g' := by
  have hi := h'.form.le
  by_cases h0 : i % 2 = 1
  · left
    rw [h.g, Int.add_mul, Int.one_mul, show gone i p s = p by unfold gone; rw [if_neg (by rw [h0]; decide)]]
    exact Int.add_lt_add_left (h.odd h0).1 _
  · by_cases h4 : i = 4
    · left
      rw [h.g, Int.add_mul, Int.one_mul, show gone i p s = s - p by rw [h4]; rfl]
      exact Int.add_lt_add_left (Int.sub_lt_self _ (h.fourth h4)) _
    · right
      rw [h'.g, show gone i' p' s' = p' by unfold gone; rw [if_neg (by (first | lia | omega))]]
      exact Int.lt_add_of_pos_right _ ((h'.odd (by (first | lia | omega))).2 (by (first | lia | omega)))
theorem pre_lt {g s p g' s' p' : Int} {q q' : UInt64} {i i' : Nat} (hs : 0 < s) (hs' : 0 < s') (h : Pre g s q i p) (h' : Pre g' s' q' i' p') (hi : i < i') : g * s' < g' * s := by
  have a := mul_le hs' h.up
  have b := mul_le hs h'.lo
  rw [Int.mul_assoc] at a
  rw [Int.mul_assoc, Int.mul_comm s'] at b
  have ss := Int.mul_pos hs hs'
  by_cases e : i' = i + 1
  · have e2 : (i' : Int) = i + 1 := by rw [e]; rfl
    rcases h.edge h' e with k | k
    · have k2 := mul_lt hs' k
      rw [Int.mul_assoc, ← e2] at k2
      exact Int.lt_of_lt_of_le k2 b
    · have k2 := mul_lt hs k
      rw [Int.mul_assoc, Int.mul_comm s', e2] at k2
      exact Int.lt_of_le_of_lt a k2
  · have k : ((i : Int) + 1) * (s * s') < i' * (s * s') := mul_lt ss (by omega)
    exact Int.lt_of_le_of_lt a (Int.lt_of_lt_of_le k b)
theorem gone_eq {i : Nat} {p s p' s' g g' : Int} (hg : g = i * s + gone i p s) (hg' : g' = i * s' + gone i p' s') (e : g * s' = g' * s) : p * s' = p' * s := by
  subst hg hg'
  rw [Int.add_mul, Int.add_mul, Int.mul_assoc, Int.mul_assoc, Int.mul_comm s'] at e
  have e := Int.add_left_cancel e
  unfold gone at e
  split at e
  · rw [Int.sub_mul, Int.sub_mul, Int.mul_comm s'] at e
    omega
  · exact e
theorem pre_same {g s p g' s' p' : Int} {q q' : UInt64} {i i' : Nat} (hs : 0 < s) (hs' : 0 < s') (h : Pre g s q i p) (h' : Pre g' s' q' i' p') (e : g * s' = g' * s) : val q = val q' := by
  rcases Nat.lt_trichotomy i i' with hi | rfl | hi
  · exact absurd e (Int.ne_of_lt (pre_lt hs hs' h h' hi))
  · exact form_same hs hs' h.p0 h.p1 h'.p0 h'.p1 h.form h'.form (gone_eq h.g h'.g e)
  · exact absurd e.symm (Int.ne_of_lt (pre_lt hs' hs h' h hi))
noncomputable def About (z : UInt64) (g s : Int) : Prop := ∃ A B, In z A B 50 ∧ g * 2 ^ 50 - 12 * s ≤ 6 * (A * s) ∧ 6 * (B * s) ≤ g * 2 ^ 50 + 12 * s
theorem about_of {z : UInt64} {g s K J A B : Int} (hs : 0 < s) (i : In z A B 50) (a : 2 * K - 2 ≤ 3 * A) (b : 3 * B ≤ 2 * J + 2) (k : g * 2 ^ 48 - s ≤ K * s) (j : J * s ≤ g * 2 ^ 48 + s) : About z g s := by
  have a1 := mul_le hs a
  have b1 := mul_le hs b
  rw [Int.sub_mul, Int.mul_assoc, Int.mul_assoc] at a1
  rw [Int.add_mul, Int.mul_assoc, Int.mul_assoc] at b1
  exact ⟨A, B, i, by clear a b b1 j i; (first | lia | omega), by clear a b a1 k i; (first | lia | omega)⟩
theorem shift_minus {i s p x : Int} : ((i + 1) * 2 ^ 48 - x) * s = (i * s + (s - p)) * 2 ^ 48 + (p * 2 ^ 48 - x * s) := by
  rw [Int.sub_mul, Int.mul_right_comm, Int.add_mul i, Int.one_mul]; (first | lia | omega)
theorem shift_plus {i s p x : Int} : ((i + 1) * 2 ^ 48 + x - 1 * 2 ^ 48) * s = (i * s + p) * 2 ^ 48 + (x * s - p * 2 ^ 48) := by
  rw [Int.sub_mul, Int.add_mul, Int.mul_right_comm, Int.add_mul i, Int.one_mul, Int.add_mul (i * s), Int.add_mul (i * s)]; (first | lia | omega)
theorem shift_round {s p x : Int} : (x - 1 * 2 ^ 48 + 6 * 2 ^ 48) * s = (((5 : Nat) : Int) * s + p) * 2 ^ 48 + (x * s - p * 2 ^ 48) := by
  rw [Int.add_mul, Int.sub_mul, Int.add_mul]; (first | lia | omega)
theorem minus_side {i : Nat} {K J : Int} (c : i ≤ 4) (b : 0 ≤ K ∧ K ≤ J ∧ J ≤ 2 ^ 48) : ((((i : Int) + 1) * 2 ^ 48 - J).natAbs ≤ 2 ^ 53 ∧ (((i : Int) + 1) * 2 ^ 48 - K).natAbs ≤ 2 ^ 53) ∧ 0 ≤ ((i : Int) + 1) * 2 ^ 48 - J ∧ ((i : Int) + 1) * 2 ^ 48 - J ≤ ((i : Int) + 1) * 2 ^ 48 - K ∧ ((i : Int) + 1) * 2 ^ 48 - K ≤ 5 * 2 ^ 48 := by omega
theorem plus_side {i : Nat} {K J : Int} (c : i ≤ 3) (b : 0 ≤ K ∧ K ≤ J ∧ J ≤ 2 ^ 48) : ((((i : Int) + 1) * 2 ^ 48 + K).natAbs ≤ 2 ^ 53 ∧ (((i : Int) + 1) * 2 ^ 48 + J).natAbs ≤ 2 ^ 53) ∧ ((((i : Int) + 1) * 2 ^ 48 + K - 1 * 2 ^ 48).natAbs ≤ 2 ^ 53 ∧ (((i : Int) + 1) * 2 ^ 48 + J - 1 * 2 ^ 48).natAbs ≤ 2 ^ 53) ∧ 0 ≤ ((i : Int) + 1) * 2 ^ 48 + K - 1 * 2 ^ 48 ∧ ((i : Int) + 1) * 2 ^ 48 + K - 1 * 2 ^ 48 ≤ ((i : Int) + 1) * 2 ^ 48 + J - 1 * 2 ^ 48 ∧ ((i : Int) + 1) * 2 ^ 48 + J - 1 * 2 ^ 48 ≤ 5 * 2 ^ 48 := by omega
theorem round_side {K J : Int} (b : 0 ≤ K ∧ K ≤ J ∧ J ≤ 2 ^ 48) (h : J < 2 ^ 48 - 1) : ((K - 1 * 2 ^ 48).natAbs ≤ 2 ^ 53 ∧ (J - 1 * 2 ^ 48).natAbs ≤ 2 ^ 53) ∧ -(2 ^ 48) ≤ K - 1 * 2 ^ 48 ∧ K - 1 * 2 ^ 48 ≤ J - 1 * 2 ^ 48 ∧ J - 1 * 2 ^ 48 ≤ -2 := by omega
theorem near_up {x d s : Int} (h : d < s) : x + d ≤ x + s := Int.add_le_add_left (Int.le_of_lt h) x
theorem near_dn {x d s : Int} (h : -s < d) : x - s ≤ x + d := by omega
theorem dif_lt {a b s : Int} (h : a < b + s) : a - b < s := by omega
theorem dif_gt {a b s : Int} (h : b < a + s) : -s < a - b := by omega
theorem pre_about {g s p : Int} {q : UInt64} {i : Nat} (hs : 0 < s) (hs2 : s ≤ 2 ^ 22) (hq : Pre g s q i p) : About (hueFin q) g s := by
  obtain ⟨hf, p0, p1, hg, odd, fourth⟩ := hq
  subst hg
  cases hf with
  | minus _ _ _ k y hi hk hy =>
    obtain ⟨K, J, u, b, d1, d2⟩ := unit_in 48 (by decide) (by decide) hy hs p0 p1
    have c4 : i ≤ 4 := by rcases hi with rfl | rfl | rfl <;> decide
    have c := minus_side c4 b
    obtain ⟨A, B, z, z1, z2⟩ := six_pos ((hk.up 48).in.neg_sub u c.1.1 c.1.2 (by decide)) c.2.1 c.2.2.1 c.2.2.2
    rw [show gone i p s = s - p by unfold gone; rw [if_pos (six_cases hi).2]]
    exact about_of hs z z1 z2 (by rw [shift_minus (p := p)]; exact near_dn (dif_gt d2)) (by rw [shift_minus (p := p)]; exact near_up (dif_lt d1))
  | plus _ _ _ k y o hi hk ho hy =>
    have c3 : i ≤ 3 := by rcases hi with rfl | rfl <;> decide
    obtain ⟨K, J, u, b, d1, d2⟩ := unit_in 48 (by decide) (by decide) hy hs p0 p1
    have c := plus_side c3 b
    obtain ⟨A, B, z, z1, z2⟩ := six_pos (((hk.up 48).in.add u c.1.1 c.1.2 (by decide)).neg_sub (ho.up 48).in c.2.1.1 c.2.1.2 (by decide)) c.2.2.1 c.2.2.2.1 c.2.2.2.2
    rw [show gone i p s = p by unfold gone; rw [if_neg (by rw [(odd_cases hi).2]; decide)]]
    exact about_of hs z z1 z2 (by rw [shift_plus (p := p)]; exact near_dn (dif_gt d1)) (by rw [shift_plus (p := p)]; exact near_up (dif_lt d2))
  | round _ _ y o ho hy =>
    have p2 := (odd rfl).1
    obtain ⟨K, J, u, b, d1, d2⟩ := unit_in 48 (by decide) (by decide) hy hs p0 p1
    have hJ : J < 2 ^ 48 - 1 := of_mul_lt hs (by rw [Int.sub_mul]; clear b d1 hs odd fourth; (first | lia | omega))
    have c := round_side b hJ
    obtain ⟨A, B, z, z1, z2⟩ := six_neg (u.neg_sub (ho.up 48).in c.1.1 c.1.2 (by decide)) c.2.1 c.2.2.1 c.2.2.2
    rw [show gone 5 p s = p by unfold gone; rw [if_neg (by decide)]]
    exact about_of hs z z1 z2 (by rw [shift_round (p := p)]; exact near_dn (dif_gt d1)) (by rw [shift_round (p := p)]; exact near_up (dif_lt d2))
end Mine
namespace Mine
open PySem PySem.Float64

theorem geB_of {x y : UInt64} (hx : Fi x) (hy : Fi y) (h : val x < val y) : fcmp .GtE (Float64.cmp x y) = false := by
  rw [cmp_val hx hy]
  simp [fcmp, compare, compareOfLessAndEq, h]
theorem fin_zero {q : UInt64} (h : Is q 0 0) : val (hueFin q) = 0 := by
  obtain ⟨A, B, i, a, b⟩ := six_pos (h.up 48).in (by decide) (by decide) (by decide)
  have i0 : In (hueFin q) 0 0 50 := ⟨i.fi, Int.le_trans (Int.mul_le_mul_of_nonneg_right (by (first | lia | omega)) (Int.le_of_lt TT_posI)) i.lo, Int.le_trans i.hi (Int.mul_le_mul_of_nonneg_right (by (first | lia | omega)) (Int.le_of_lt TT_posI))⟩
  have e := i0.is.eq
  rw [Int.zero_mul] at e
  exact (Int.mul_eq_zero.mp e).resolve_right (by decide)
theorem fin_same {q q' : UInt64} (hq : Fi q) (hq' : Fi q') (h : val q = val q') : val (hueFin q) = val (hueFin q') := by
  by_cases h0 : val q = 0
  · have i : Is q 0 0 := ⟨hq, by rw [h0]; simp⟩
    have i' : Is q' 0 0 := ⟨hq', by rw [← h, h0]; simp⟩
    rw [fin_zero i, fin_zero i']
  · rw [eq_of_val hq hq' h h0]
theorem share_lt {g s g' s' a a' : Int} (hs : 0 < s) (hs' : 0 < s') (ha : a = (g * 2 ^ 47).fdiv s) (ha' : a' = (g' * 2 ^ 47).fdiv s') (h : a < a') : g * s' < g' * s := by
  have h1 := (fdiv_rng (g * 2 ^ 47) hs).2
  have h2 := (fdiv_rng (g' * 2 ^ 47) hs').1
  rw [← ha] at h1
  rw [← ha'] at h2
  have k1 := mul_lt hs' h1
  have k2 := mul_le hs h2
  have k3 : (a + 1) * (s * s') ≤ a' * (s * s') := mul_le (Int.mul_pos hs hs') h
  have e1 : (a * s + s) * s' = (a + 1) * (s * s') := by rw [Int.add_mul, Int.add_mul a 1, Int.one_mul, Int.mul_assoc]
  have e2 : a' * s' * s = a' * (s * s') := by rw [Int.mul_assoc, Int.mul_comm s']
  have e3 : g * 2 ^ 47 * s' = g * s' * 2 ^ 47 := Int.mul_right_comm ..
  have e4 : g' * 2 ^ 47 * s = g' * s * 2 ^ 47 := Int.mul_right_comm ..
  (first | lia | omega)
theorem share_eq {g s g' s' a : Int} (hs : 0 < s) (hs' : 0 < s') (hz : s * s' ≤ 2 ^ 46) (ha : a = (g * 2 ^ 47).fdiv s) (ha' : a = (g' * 2 ^ 47).fdiv s') : g * s' = g' * s := by
  have h1 := fdiv_rng (g * 2 ^ 47) hs
  have h2 := fdiv_rng (g' * 2 ^ 47) hs'
  rw [← ha] at h1
  rw [← ha'] at h2
  have k1 := mul_lt hs' h1.2
  have k2 := mul_le hs h2.1
  have k3 := mul_lt hs h2.2
  have k4 := mul_le hs' h1.1
  have e1 : (a * s + s) * s' = a * (s * s') + s * s' := by rw [← Int.mul_assoc, Int.add_mul]
  have e2 : a * s' * s = a * (s * s') := by rw [Int.mul_assoc, Int.mul_comm s']
  have e5 : (a * s' + s') * s = a * (s * s') + s * s' := by rw [Int.add_mul, e2, Int.mul_comm s']
  have e6 : a * s * s' = a * (s * s') := Int.mul_assoc ..
  have e3 : g * 2 ^ 47 * s' = g * s' * 2 ^ 47 := Int.mul_right_comm ..
  have e4 : g' * 2 ^ 47 * s = g' * s * 2 ^ 47 := Int.mul_right_comm ..
  omega
theorem in_lt {x y : UInt64} {K J K' J' : Int} {e : Nat} (hx : In x K J e) (hy : In y K' J' e) (h : J < K') : val x < val y := by
  have T := TT_posI
  have h1 := hx.hi
  have h2 := hy.lo
  have h3 := mul_lt T h
  exact Int.lt_of_mul_lt_mul_right (a := 2 ^ e) (by omega) (Int.le_of_lt (pow_pos_int e))
noncomputable def HueOk (a : Int) (z : UInt64) : Prop := ∃ g s q i p, (0 < s ∧ s ≤ 2 ^ 22) ∧ a = (g * 2 ^ 47).fdiv s ∧ Pre g s q i p ∧ z = hueFin q
noncomputable def SatOk (a : Int) (z : UInt64) : Prop := ∃ p h, (0 < h ∧ h ≤ 2 ^ 23) ∧ (0 ≤ p ∧ p ≤ h) ∧ a = (p * 2 ^ 47).fdiv h ∧ Rd z (p * TT) h.natAbs
noncomputable def Told (P : Int → UInt64 → Prop) : Prop := ∀ a z a' z', P a z → P a' z' → (a = a' → fcmp .NotEq (Float64.cmp z z') = false) ∧ (a < a' → fcmp .GtE (Float64.cmp z z') = false)
theorem prod_le {s s' b : Int} (h0 : 0 < s) (h0' : 0 < s') (h : s ≤ b) (h' : s' ≤ b) : s * s' ≤ b * b := Int.mul_le_mul h h' (Int.le_of_lt h0') (by omega)
theorem gap {g s g' s' B A : Int} (hs : 0 < s) (hs' : 0 < s') (hz : s * s' ≤ 2 ^ 44) (h : g * s' < g' * s) (h1 : 6 * (B * s) ≤ g * 2 ^ 50 + 12 * s) (h2 : g' * 2 ^ 50 - 12 * s' ≤ 6 * (A * s')) : B < A := by
  have k1 := mul_le hs' h1
  have k2 := mul_le hs h2
  have e1 : (g * 2 ^ 50 + 12 * s) * s' = g * s' * 2 ^ 50 + 12 * (s * s') := by rw [Int.add_mul, Int.mul_right_comm g, Int.mul_assoc 12]
  have e2 : (g' * 2 ^ 50 - 12 * s') * s = g' * s * 2 ^ 50 - 12 * (s * s') := by rw [Int.sub_mul, Int.mul_right_comm g', Int.mul_assoc 12, Int.mul_comm s']
  have e3 : 6 * (B * s) * s' = 6 * (B * (s * s')) := by rw [Int.mul_assoc, Int.mul_assoc]
  have e4 : 6 * (A * s') * s = 6 * (A * (s * s')) := by rw [Int.mul_assoc, Int.mul_assoc, Int.mul_comm s']
  rw [e1, e3] at k1
  rw [e2, e4] at k2
  have k3 : B * (s * s') < A * (s * s') := by clear e1 e2 e3 e4 h1 h2; omega
  exact Int.lt_of_mul_lt_mul_right k3 (Int.le_of_lt (Int.mul_pos hs hs'))
theorem hue_told : Told HueOk := by
  rintro a z a' z' ⟨g, s, q, i, p, ⟨s0, s1⟩, ha, hq, rfl⟩ ⟨g', s', q', i', p', ⟨s0', s1'⟩, ha', hq', rfl⟩
  obtain ⟨A, B, u, -, b⟩ := pre_about s0 s1 hq
  obtain ⟨A', B', u', b', -⟩ := pre_about s0' s1' hq'
  have hz : s * s' ≤ 2 ^ 44 := prod_le s0 s0' s1 s1'
  refine ⟨fun e => ?_, fun h => ?_⟩
  · subst e
    exact eqB_of u.fi u'.fi (fin_same (hq.form.fi s0 hq.p0 hq.p1) (hq'.form.fi s0' hq'.p0 hq'.p1) (pre_same s0 s0' hq hq' (share_eq s0 s0' (Int.le_trans hz (by decide)) ha ha')))
  · exact geB_of u.fi u'.fi (in_lt u u' (gap s0 s0' hz (share_lt s0 s0' ha ha' h) b b'))
theorem gap2 {g s g' s' B A : Int} (hs : 0 < s) (hs' : 0 < s') (hz : s * s' ≤ 2 ^ 46) (h : g * s' < g' * s) (h1 : B * s < g * 2 ^ 48 + s) (h2 : g' * 2 ^ 48 < A * s' + s') : B < A := by
  have k1 := mul_lt hs' h1
  have k2 := mul_lt hs h2
  rw [Int.mul_assoc, Int.add_mul, Int.mul_right_comm] at k1
  rw [Int.add_mul, Int.mul_assoc A, Int.mul_comm s', Int.mul_right_comm] at k2
  have k3 : B * (s * s') < A * (s * s') := by clear h1 h2; omega
  exact of_mul_lt (Int.mul_pos hs hs') k3
theorem sat_told : Told SatOk := by
  rintro a z a' z' ⟨p, h, ⟨h0, h1⟩, ⟨p0, p1⟩, ha, r⟩ ⟨p', h', ⟨h0', h1'⟩, ⟨p0', p1'⟩, ha', r'⟩
  have hz : h * h' ≤ 2 ^ 46 := prod_le h0 h0' h1 h1'
  refine ⟨fun e => ?_, fun lt => ?_⟩
  · subst e
    exact eqB_of r.fi r'.fi (rd_same r r' h0 h0' (share_eq h0 h0' hz ha ha'))
  · obtain ⟨K, J, u, -, -, d2⟩ := unit_in 48 (by decide) (by decide) r h0 p0 p1
    obtain ⟨K', J', u', -, d1, -⟩ := unit_in 48 (by decide) (by decide) r' h0' p0' p1'
    exact geB_of r.fi r'.fi (in_lt u u' (gap2 h0 h0' hz (share_lt h0 h0' ha ha' lt) d2 d1))
end Mine
namespace Mine
open PySem PySem.Float64

structure Col (l h g : Int) (e : Nat) (r gr b : UInt64) : Prop where
  hM : Is (fmax3 r gr b) h e
  hm : Is (fmin3 r gr b) l e
  pre : l < h → ∃ i p, Pre (g.fmod (6 * (h - l))) (h - l) (hueOf r gr b (fmax3 r gr b) (sub (fmax3 r gr b) (fmin3 r gr b))) i p
theorem fmodI {a b : Int} (h0 : 0 ≤ a) (h1 : a < b) : a.fmod b = a := by
  rw [Int.fmod_eq_emod_of_nonneg _ (by omega)]; exact Int.emod_eq_of_lt h0 h1
theorem imax_is {a b c M : Int} (h1 : a ≤ M) (h2 : b ≤ M) (h3 : c ≤ M) (h : a = M ∨ b = M ∨ c = M) : imax3 a b c = M := by unfold imax3; (repeat' split) <;> (first | lia | omega)
theorem imin_is {a b c M : Int} (h1 : M ≤ a) (h2 : M ≤ b) (h3 : M ≤ c) (h : a = M ∨ b = M ∨ c = M) : imin3 a b c = M := by unfold imin3; (repeat' split) <;> (first | lia | omega)
theorem max_at {r g b : UInt64} {R G B M : Int} {e : Nat} (hr : Is r R e) (hg : Is g G e) (hb : Is b B e) (h1 : R ≤ M) (h2 : G ≤ M) (h3 : B ≤ M) (h : R = M ∨ G = M ∨ B = M) : Is (fmax3 r g b) M e := by
  have := max_is hr hg hb
  rwa [imax_is h1 h2 h3 h] at this
theorem min_at {r g b : UInt64} {R G B M : Int} {e : Nat} (hr : Is r R e) (hg : Is g G e) (hb : Is b B e) (h1 : M ≤ R) (h2 : M ≤ G) (h3 : M ≤ B) (h : R = M ∨ G = M ∨ B = M) : Is (fmin3 r g b) M e := by
  have := min_is hr hg hb
  rwa [imin_is h1 h2 h3 h] at this
structure Ord5 (l m h : Int) (e : Nat) (M n : UInt64) : Prop where
  lm : l ≤ m
  mh : m ≤ h
  lh : l < h
  top : Is M h e
  d : Is (sub M n) (h - l) e
  at_ : ∀ {x : UInt64} {X : Int}, Is x X e → l ≤ X → X ≤ h → Is (sub M x) (h - X) e
section
variable {l m h : Int} {e : Nat} {M n : UInt64}
theorem Ord5.s (S : Ord5 l m h e M n) : 0 < h - l := Int.sub_pos_of_lt S.lh
theorem Ord5.p0 (S : Ord5 l m h e M n) : 0 ≤ h - m := Int.sub_nonneg_of_le S.mh
theorem Ord5.p1 (S : Ord5 l m h e M n) : h - m ≤ h - l := Int.sub_le_sub_left S.lm _
theorem Ord5.one (S : Ord5 l m h e M n) {x : UInt64} (hx : Is x l e) : Is (div (sub M x) (sub M n)) 1 0 := quot_one (S.at_ hx (Int.le_refl _) (Int.le_of_lt S.lh)) S.d S.s
theorem Ord5.part (S : Ord5 l m h e M n) {x : UInt64} (hx : Is x m e) : Rd (div (sub M x) (sub M n)) ((h - m) * TT) (h - l).natAbs := rd_quot (S.at_ hx S.lm S.mh) S.d S.s (by have := S.p0; have := S.p1; omega)
theorem Ord5.least (S : Ord5 l m h e M n) {x : UInt64} (hx : Is x l e) : Rd (div (sub M x) (sub M n)) ((h - l) * TT) (h - l).natAbs := rd_quot (S.at_ hx (Int.le_refl _) (Int.le_of_lt S.lh)) S.d S.s (by omega)
theorem eq_yes {x y : UInt64} {n : Int} (h : Is x n e) (k : Is y n e) : fcmp .Eq (Float64.cmp x y) = true := by rw [eq_is h k, decide_eq_true rfl]
theorem eq_no {x y : UInt64} {n k : Int} (h : Is x n e) (j : Is y k e) (hne : n < k) : ¬ fcmp .Eq (Float64.cmp x y) = true := by rw [eq_is h j, decide_eq_false (Int.ne_of_lt hne)]; decide
theorem hue_r {r g b : UInt64} {d : UInt64} (h : fcmp .Eq (Float64.cmp r M) = true) : hueOf r g b M d = sub (div (sub M b) d) (div (sub M g) d) := if_pos h
theorem hue_g {r g b : UInt64} {d : UInt64} (h : ¬ fcmp .Eq (Float64.cmp r M) = true) (h2 : fcmp .Eq (Float64.cmp g M) = true) : hueOf r g b M d = sub (add 0x4000000000000000 (div (sub M r) d)) (div (sub M b) d) := (if_neg h).trans (if_pos h2)
theorem hue_b {r g b : UInt64} {d : UInt64} (h : ¬ fcmp .Eq (Float64.cmp r M) = true) (h2 : ¬ fcmp .Eq (Float64.cmp g M) = true) : hueOf r g b M d = sub (add 0x4010000000000000 (div (sub M g) d)) (div (sub M r) d) := (if_neg h).trans (if_neg h2)
theorem Ord5.even (S : Ord5 l m h e M n) {i : Nat} {k x : UInt64} {g p : Int} (hi : i = 0 ∨ i = 2 ∨ i = 4) (hk : Is k (i + 1) 0) (hy : Rd (div (sub M x) (sub M n)) (p * TT) (h - l).natAbs) (p0 : 0 ≤ p) (p1 : p ≤ h - l) (p4 : i = 4 → 0 < p) (hg : g = i * (h - l) + ((h - l) - p)) : Pre g (h - l) (sub k (div (sub M x) (sub M n))) i p :=
  ⟨.minus _ _ _ _ _ hi hk hy, p0, p1, by rw [hg]; unfold gone; rw [if_pos (six_cases hi).2], fun o => absurd (six_cases hi).2 (by rw [o]; decide), p4⟩
theorem Ord5.odd (S : Ord5 l m h e M n) {i : Nat} {k x o : UInt64} {g : Int} (hi : i = 1 ∨ i = 3) (hk : Is k (i + 1) 0) (ho : Is o 1 0) (hx : Is x m e) (lm : l < m) (mh : m < h) (hg : g = i * (h - l) + (h - m)) : Pre g (h - l) (sub (add k (div (sub M x) (sub M n))) o) i (h - m) :=
  ⟨.plus _ _ _ _ _ _ hi hk ho (S.part hx), S.p0, S.p1, by rw [hg]; unfold gone; rw [if_neg (by rw [(odd_cases hi).2]; decide)], fun _ => ⟨Int.sub_lt_sub_left lm _, fun _ => Int.sub_pos_of_lt mh⟩, fun f => absurd (odd_cases hi).2 (by rw [f]; decide)⟩
theorem Ord5.last (S : Ord5 l m h e M n) {x o : UInt64} {g : Int} (ho : Is o 1 0) (hx : Is x m e) (lm : l < m) (hg : g = 5 * (h - l) + (h - m)) : Pre g (h - l) (sub (div (sub M x) (sub M n)) o) 5 (h - m) :=
  ⟨.round _ _ _ _ ho (S.part hx), S.p0, S.p1, by rw [hg]; rfl, fun _ => ⟨Int.sub_lt_sub_left lm _, fun f => absurd f (by decide)⟩, fun f => absurd f (by decide)⟩
end
section
variable {r g b : UInt64} {l m h : Int} {e : Nat}
theorem col_of {gn : Int} (h0 : 0 ≤ l) (h1 : l ≤ m) (h2 : m ≤ h) (h3 : h ≤ 2 ^ 53) (he : e ≤ 1074) (hM : Is (fmax3 r g b) h e) (hm : Is (fmin3 r g b) l e) (hP : ∀ M n, Ord5 l m h e M n → ∃ i p, Pre (gn.fmod (6 * (h - l))) (h - l) (hueOf r g b M (sub M n)) i p) : Col l h gn e r g b :=
  ⟨hM, hm, fun lh => hP _ _ ⟨h1, h2, lh, hM, hM.sub hm (by omega) he, fun hx k1 k2 => hM.sub hx (by omega) he⟩⟩
variable (h0 : 0 ≤ l) (h1 : l ≤ m) (h2 : m ≤ h) (h3 : h ≤ 2 ^ 53) (he : e ≤ 1074)
include h0 h1 h2 h3 he
theorem col1 (hr : Is r h e) (hg : Is g m e) (hb : Is b l e) : Col l h (m - l) e r g b := by
  have lh := Int.le_trans h1 h2
  refine col_of h0 h1 h2 h3 he (max_at hr hg hb (Int.le_refl _) h2 lh (.inl rfl)) (min_at hr hg hb lh h1 (Int.le_refl _) (.inr (.inr rfl))) fun M n S => ⟨0, h - m, ?_⟩
  rw [fmodI (by (first | lia | omega)) (by have := S.lh; (first | lia | omega)), hue_r (eq_yes hr S.top)]
  exact S.even (.inl rfl) (S.one hb) (S.part hg) S.p0 S.p1 (fun x => absurd x (by decide)) (by (first | lia | omega))
theorem col2 (hr : Is r m e) (hg : Is g h e) (hb : Is b l e) : Col l h (2 * (h - l) - (m - l)) e r g b := by
  have lh := Int.le_trans h1 h2
  refine col_of h0 h1 h2 h3 he (max_at hr hg hb h2 (Int.le_refl _) lh (.inr (.inl rfl))) (min_at hr hg hb h1 lh (Int.le_refl _) (.inr (.inr rfl))) fun M n S => ?_
  rw [fmodI (by (first | lia | omega)) (by have := S.lh; (first | lia | omega))]
  rcases Int.lt_or_eq_of_le h2 with mh | rfl
  · rw [hue_g (eq_no hr S.top mh) (eq_yes hg S.top)]
    rcases Int.lt_or_eq_of_le h1 with lm | rfl
    · exact ⟨1, _, S.odd (.inl rfl) two_is (S.one hb) hr lm mh (by (first | lia | omega))⟩
    · exact ⟨2, _, S.even (.inr (.inl rfl)) (two_is.add (S.one hr) (by decide) (by decide)) (S.least hb) (Int.le_of_lt S.s) (Int.le_refl _) (fun x => absurd x (by decide)) (by (first | lia | omega))⟩
  · rw [hue_r (eq_yes hr S.top)]
    exact ⟨0, _, S.even (.inl rfl) (S.one hb) (S.part hg) S.p0 S.p1 (fun x => absurd x (by decide)) (by (first | lia | omega))⟩
theorem col3 (hr : Is r l e) (hg : Is g h e) (hb : Is b m e) : Col l h (2 * (h - l) + (m - l)) e r g b := by
  have lh := Int.le_trans h1 h2
  refine col_of h0 h1 h2 h3 he (max_at hr hg hb lh (Int.le_refl _) h2 (.inr (.inl rfl))) (min_at hr hg hb (Int.le_refl _) lh h1 (.inl rfl)) fun M n S => ⟨2, h - m, ?_⟩
  rw [fmodI (by (first | lia | omega)) (by have := S.lh; (first | lia | omega)), hue_g (eq_no hr S.top S.lh) (eq_yes hg S.top)]
  exact S.even (.inr (.inl rfl)) (two_is.add (S.one hr) (by decide) (by decide)) (S.part hb) S.p0 S.p1 (fun x => absurd x (by decide)) (by (first | lia | omega))
theorem col4 (hr : Is r l e) (hg : Is g m e) (hb : Is b h e) : Col l h (4 * (h - l) - (m - l)) e r g b := by
  have lh := Int.le_trans h1 h2
  refine col_of h0 h1 h2 h3 he (max_at hr hg hb lh h2 (Int.le_refl _) (.inr (.inr rfl))) (min_at hr hg hb (Int.le_refl _) h1 lh (.inl rfl)) fun M n S => ?_
  rw [fmodI (by (first | lia | omega)) (by have := S.lh; (first | lia | omega))]
  rcases Int.lt_or_eq_of_le h2 with mh | rfl
  · rw [hue_b (eq_no hr S.top S.lh) (eq_no hg S.top mh)]
    rcases Int.lt_or_eq_of_le h1 with lm | rfl
    · exact ⟨3, _, S.odd (.inr rfl) four_is (S.one hr) hg lm mh (by (first | lia | omega))⟩
    · exact ⟨4, _, S.even (.inr (.inr rfl)) (four_is.add (S.one hg) (by decide) (by decide)) (S.least hr) (Int.le_of_lt S.s) (Int.le_refl _) (fun _ => S.s) (by (first | lia | omega))⟩
  · rw [hue_g (eq_no hr S.top S.lh) (eq_yes hg S.top)]
    exact ⟨2, _, S.even (.inr (.inl rfl)) (two_is.add (S.one hr) (by decide) (by decide)) (S.part hb) S.p0 S.p1 (fun x => absurd x (by decide)) (by (first | lia | omega))⟩
theorem col5 (hr : Is r m e) (hg : Is g l e) (hb : Is b h e) : Col l h (4 * (h - l) + (m - l)) e r g b := by
  have lh := Int.le_trans h1 h2
  refine col_of h0 h1 h2 h3 he (max_at hr hg hb h2 lh (Int.le_refl _) (.inr (.inr rfl))) (min_at hr hg hb h1 (Int.le_refl _) lh (.inr (.inl rfl))) fun M n S => ?_
  rw [fmodI (by (first | lia | omega)) (by have := S.lh; (first | lia | omega))]
  rcases Int.lt_or_eq_of_le h2 with mh | rfl
  · rw [hue_b (eq_no hr S.top mh) (eq_no hg S.top S.lh)]
    exact ⟨4, _, S.even (.inr (.inr rfl)) (four_is.add (S.one hg) (by decide) (by decide)) (S.part hr) S.p0 S.p1 (fun _ => Int.sub_pos_of_lt mh) (by (first | lia | omega))⟩
  · rw [hue_r (eq_yes hr S.top)]
    exact ⟨5, _, S.last (S.one hg) hb S.lh (by (first | lia | omega))⟩
theorem col6 (hr : Is r h e) (hg : Is g l e) (hb : Is b m e) : Col l h (6 * (h - l) - (m - l)) e r g b := by
  have lh := Int.le_trans h1 h2
  refine col_of h0 h1 h2 h3 he (max_at hr hg hb (Int.le_refl _) lh h2 (.inl rfl)) (min_at hr hg hb lh (Int.le_refl _) h1 (.inr (.inl rfl))) fun M n S => ?_
  rw [hue_r (eq_yes hr S.top)]
  rcases Int.lt_or_eq_of_le h1 with lm | rfl
  · rw [fmodI (by (first | lia | omega)) (by (first | lia | omega))]
    exact ⟨5, _, S.last (S.one hg) hb lm (by (first | lia | omega))⟩
  · rw [Int.sub_self, Int.sub_zero, Int.fmod_self]
    exact ⟨0, _, S.even (.inl rfl) (S.one hb) (S.least hg) (Int.le_of_lt S.s) (Int.le_refl _) (fun x => absurd x (by decide)) (by (first | lia | omega))⟩
end
theorem back_round {z : UInt64} {h n K J : Int} (h0 : 0 ≤ h) (h1 : h ≤ 2 ^ 23) (i : In z K J 30) (hn : 0 ≤ n) (hn2 : n ≤ 2 ^ 22) (hK : 0 ≤ K) (k1 : n * 2 ^ 30 < h * K + 2 ^ 29) (k2 : h * J < n * 2 ^ 30 + 2 ^ 29) (k3 : K ≤ J) :
    isFinite (mul (ofInt h) z) = true ∧ Flt.toInt nearestOf (mul (ofInt h) z) = n := by
  have hJK : h * K ≤ h * J := Int.mul_le_mul_of_nonneg_left k3 h0
  have hK0 : 0 ≤ h * K := Int.mul_nonneg h0 hK
  have j := In.mulE (ofInt_is (n := h) (by (first | lia | omega))) i h0 hK (by (first | lia | omega)) (by (first | lia | omega)) (by decide)
  refine ⟨fi_fin j.fi, ?_⟩
  have e : ((n.toNat : Nat) : Int) = n := Int.toNat_of_nonneg hn
  rw [← e]
  refine round_at j.fi ?_
  rw [e]
  have a1 := j.lo
  have a2 := j.hi
  have T := TT_posI
  have p1 := mul_lt T k1
  have p2 := mul_lt T k2
  have q1 : (n * 2 ^ 30) * (TT : Int) = n * TT * 2 ^ 30 := Int.mul_right_comm ..
  rw [q1, Int.add_mul] at p1
  rw [Int.add_mul, q1] at p2
  rw [Nat.zero_add] at a1 a2
  generalize val (mul (ofInt h) z) = v at *
  generalize n * (TT : Int) = nt at *
  generalize h * K * (TT : Int) = w at *
  generalize h * J * (TT : Int) = w' at *
  generalize TT = t at *
  clear hJK hK0 k1 k2
  (first | lia | omega)

noncomputable def dueH (gone s : Int) : Int := if s = 0 then 0 else (gone.fmod (6 * s) * 2 ^ 47).fdiv s
noncomputable def dueS (s h : Int) : Int := if s = 0 then 0 else (s * 2 ^ 47).fdiv h
theorem one_one : Is one 1 0 := one_Is 0
theorem grey_hue : HueOk 0 0 := by
  have h := Rd.self one_one.fi
  rw [one_is.2] at h
  exact ⟨0, 1, sub one one, 0, 1, ⟨by decide, by decide⟩, by decide, ⟨.minus 0 1 1 one one (.inl rfl) one_one (h.congr (by decide) (by rw [Int.one_mul]; rfl)), by decide, by decide, by decide, fun x => absurd x (by decide), fun x => absurd x (by decide)⟩, by decide +kernel⟩
theorem grey_sat : SatOk 0 0 := by
  refine ⟨0, 1, ⟨by decide, by decide⟩, ⟨by decide, by decide⟩, by decide, ?_⟩
  have h := Rd.zero false
  exact h.congr (by decide) (by simp)
theorem told5 {l h gone : Int} {r g b : UInt64} (H : Col l h gone 23 r g b) (h0 : 0 ≤ l) (h1 : l ≤ h) (h2 : h ≤ 2 ^ 23) (h3 : h - l ≤ 2 ^ 22) :
    (fcmp .Eq (Float64.cmp (fmin3 r g b) (fmax3 r g b)) = false → isZero (fmax3 r g b) = false ∧ isZero (sub (fmax3 r g b) (fmin3 r g b)) = false) ∧
    ∃ hue sat, hsvOf r g b = [.float hue, .float sat, .float (fmax3 r g b)] ∧ HueOk (dueH gone (h - l)) hue ∧ SatOk (dueS (h - l) h) sat ∧ isFinite (mul (ofInt h) sat) = true ∧ Flt.toInt nearestOf (mul (ofInt h) sat) = h - l := by
  have hM := H.hM
  have hm := H.hm
  have hd := hM.sub hm (by (first | lia | omega)) (by decide)
  rw [eq_is hm hM]
  refine ⟨fun hc => ?_, ?_⟩
  · have hlt : l < h := by simp at hc; (first | lia | omega)
    exact ⟨isZero_is hM (by (first | lia | omega)), isZero_is hd (by (first | lia | omega))⟩
  · unfold hsvOf dueH dueS
    rw [eq_is hm hM]
    by_cases hlt : l = h
    · subst hlt
      rw [if_pos (by simp), Int.sub_self, if_pos rfl, if_pos rfl]
      refine ⟨0, 0, rfl, grey_hue, grey_sat, ?_⟩
      have i : In 0 0 0 30 := ⟨(val_zero false).1, by rw [show val 0 = 0 from (val_zero false).2]; simp, by rw [show val 0 = 0 from (val_zero false).2]; simp⟩
      exact back_round h0 h2 i (by decide) (by decide) (by decide) (by (first | lia | omega)) (by (first | lia | omega)) (by decide)
    · have s0 : 0 < h - l := by (first | lia | omega)
      rw [if_neg (by simpa using hlt), if_neg (Int.ne_of_gt s0), if_neg (Int.ne_of_gt s0)]
      have hp : 0 < h := by (first | lia | omega)
      have rr := rd_quot hd hM hp (by (first | lia | omega))
      obtain ⟨i, p, pre⟩ := H.pre (by (first | lia | omega))
      have s1 : h - l ≤ h := Int.sub_le_self _ h0
      obtain ⟨K, J, u, b, d1, d2⟩ := unit_in 30 (by decide) (by decide) rr hp (Int.le_of_lt s0) s1
      exact ⟨_, _, rfl, ⟨_, _, _, i, p, ⟨s0, h3⟩, rfl, pre, rfl⟩, ⟨h - l, h, ⟨hp, h2⟩, ⟨Int.le_of_lt s0, s1⟩, rfl, rr⟩,
        back_round (Int.le_of_lt hp) h2 u (Int.le_of_lt s0) h3 b.1 (by rw [Int.mul_comm h K]; clear d2 b hlt; (first | lia | omega)) (by rw [Int.mul_comm h J]; clear d1 b hlt; (first | lia | omega)) b.2.1⟩
end Mine
namespace Mine
open PySem PySem.W PySem.Float64

theorem rsize {a b c : Int} (hc : 0 < c) (hab : a ≤ b) : 0 ≤ Builtin.Range.rangeSize a b c ∧ Builtin.Range.rangeSize a b c ≤ b - a := by
  unfold Builtin.Range.rangeSize
  rw [if_pos hc]
  split
  · have h1 := Int.ediv_le_self (a := b - a - 1) c (by omega)
    have h2 := Int.ediv_nonneg (a := b - a - 1) (b := c) (by omega) (by omega)
    omega
  · omega
theorem rng_small {a b c : Int} (ha : 0 ≤ a) (hab : a ≤ b) (hb : b < 2 ^ 40) (hc : 0 < c) (hc' : c < 2 ^ 40) : Builtin.Range.small a b c = true := by
  have e := rsize hc hab
  unfold Builtin.Range.small
  simp only [Builtin.Range.rangeFitsLong, Bool.and_eq_true, Bool.or_eq_true, decide_eq_true_eq, beq_iff_eq]
  generalize Builtin.Range.rangeSize a b c = z at *
  refine ⟨⟨⟨⟨?_, ?_⟩, ?_⟩, ?_⟩, ?_⟩
  · (first | lia | omega)
  · (first | lia | omega)
  · (first | lia | omega)
  · (first | lia | omega)
  · right
    rw [if_pos hc]
    simp only [Bool.and_eq_true, decide_eq_true_eq]
    (first | lia | omega)
theorem rng_lt {a b c : Int} {i : Nat} (hc : 0 < c) (h : i < (Builtin.Range.rangeSize a b c).toNat) : a + (i : Int) * c < b := by
  unfold Builtin.Range.rangeSize at h
  rw [if_pos hc] at h
  split at h
  · have h1 : (i : Int) ≤ (b - a - 1) / c := by omega
    have h2 := (Int.le_ediv_iff_mul_le hc).mp h1
    omega
  · simp at h
theorem rng_pos {a b c : Int} (hc : 0 < c) (hab : a < b) : 0 < (Builtin.Range.rangeSize a b c).toNat := by
  unfold Builtin.Range.rangeSize
  rw [if_pos hc, if_pos hab]
  have h2 := Int.ediv_nonneg (a := b - a - 1) (b := c) (by omega) (by omega)
  omega
end Mine
namespace Mine
open PySem PySem.W PySem.Calls PyProof.Rows
noncomputable def K_rgbtohsv : Keys := ⟨["r", "g", "b", "maxc", "minc", "rangec", "v", "s", "rc", "gc", "bc", "h"], ["max", "min"], [], []⟩
noncomputable def B_rgbtohsv : PSs := .cons (.assign (.name 3) (.call (.glob 0) (.cons (.loc 0) (.cons (.loc 1) (.cons (.loc 2) (.nil))))))
  (.cons (.assign (.name 4) (.call (.glob 1) (.cons (.loc 0) (.cons (.loc 1) (.cons (.loc 2) (.nil))))))
  (.cons (.assign (.name 5) (.bin .Sub (.loc 3) (.loc 4)))
  (.cons (.assign (.name 6) (.loc 3))
  (.cons (.ifs (.cmp .Eq (.loc 4) (.loc 3)) (.cons (.ret (.tuple (.cons (.const (.float 0x0)) (.cons (.const (.float 0x0)) (.cons (.loc 6) (.nil))))))
  (.nil)) (.nil))
  (.cons (.assign (.name 7) (.bin .Div (.loc 5) (.loc 3)))
  (.cons (.assign (.name 8) (.bin .Div (.bin .Sub (.loc 3) (.loc 0)) (.loc 5)))
  (.cons (.assign (.name 9) (.bin .Div (.bin .Sub (.loc 3) (.loc 1)) (.loc 5)))
  (.cons (.assign (.name 10) (.bin .Div (.bin .Sub (.loc 3) (.loc 2)) (.loc 5)))
  (.cons (.ifs (.cmp .Eq (.loc 0) (.loc 3)) (.cons (.assign (.name 11) (.bin .Sub (.loc 10) (.loc 9)))
  (.nil)) (.cons (.ifs (.cmp .Eq (.loc 1) (.loc 3)) (.cons (.assign (.name 11) (.bin .Sub (.bin .Add (.const (.float 0x4000000000000000)) (.loc 8)) (.loc 10)))
  (.nil)) (.cons (.assign (.name 11) (.bin .Sub (.bin .Add (.const (.float 0x4010000000000000)) (.loc 9)) (.loc 8)))
  (.nil)))
  (.nil)))
  (.cons (.assign (.name 11) (.bin .Mod (.bin .Div (.loc 11) (.const (.float 0x4018000000000000))) (.const (.float 0x3ff0000000000000))))
  (.cons (.ret (.tuple (.cons (.loc 11) (.cons (.loc 7) (.cons (.loc 6) (.nil))))))
  (.nil))))))))))))
noncomputable def gv_rgbtohsv : Nat → Option AV := fun j => ([.bi .max, .bi .min] : List AV)[j]?
noncomputable def fns_rgbtohsv : Fns := noFns
noncomputable def K_lawrows : Keys := ⟨["low", "mid", "high", "span", "way", "ring", "rows", "red", "green", "blue", "gone", "due", "told", "right"], ["rgb_to_hsv", "round", "isinstance", "float"], [], ["isinstance", "float"]⟩
noncomputable def B_lawrows_1 : PSs := .cons (.assign (.name 11) (.tuple (.cons (.const (.int 0)) (.cons (.const (.int 0)) (.nil)))))
  (.cons (.ifs (.cmp .NotEq (.loc 3) (.const (.int 0))) (.cons (.assign (.name 11) (.tuple (.cons (.bin .FloorDiv (.bin .Mult (.bin .Mod (.loc 10) (.bin .Mult (.const (.int 6)) (.loc 3))) (.bin .Pow (.const (.int 2)) (.const (.int 47)))) (.loc 3)) (.cons (.bin .FloorDiv (.bin .Mult (.loc 3) (.bin .Pow (.const (.int 2)) (.const (.int 47)))) (.loc 2)) (.nil)))))
  (.nil)) (.nil))
  (.cons (.assign (.name 12) (.call (.glob 0) (.cons (.bin .Div (.loc 7) (.bin .Pow (.const (.int 2)) (.const (.int 23)))) (.cons (.bin .Div (.loc 8) (.bin .Pow (.const (.int 2)) (.const (.int 23)))) (.cons (.bin .Div (.loc 9) (.bin .Pow (.const (.int 2)) (.const (.int 23)))) (.nil))))))
  (.cons (.assign (.name 13) (.bools true (.cons (.cmp .Eq (.sub (.loc 12) (.const (.int 2))) (.bin .Div (.loc 2) (.bin .Pow (.const (.int 2)) (.const (.int 23))))) (.cons (.cmp .Eq (.call (.glob 1) (.cons (.bin .Mult (.loc 2) (.sub (.loc 12) (.const (.int 1)))) (.nil))) (.loc 3)) (.nil)))))
  (.cons (.append (.loc 6) (.tuple (.cons (.loc 11) (.cons (.loc 12) (.cons (.bools true (.cons (.loc 13) (.cons (.cmp .Eq (.comp (.loc 0) none [] [2, 3] (.loc 12) (.cons (.not (.call (.glob 0) (.cons (.loc 0) (.cons (.glob 1) (.nil))))) (.nil))) (.list (.nil))) (.nil)))) (.nil))))))
  (.nil)))))
noncomputable def B_lawrows : PSs := .cons (.assign (.name 3) (.bin .Sub (.loc 2) (.loc 0)))
  (.cons (.assign (.name 4) (.bin .Sub (.loc 1) (.loc 0)))
  (.cons (.assign (.name 5) (.list (.cons (.tuple (.cons (.loc 2) (.cons (.loc 1) (.cons (.loc 0) (.cons (.loc 4) (.nil)))))) (.cons (.tuple (.cons (.loc 1) (.cons (.loc 2) (.cons (.loc 0) (.cons (.bin .Sub (.bin .Mult (.const (.int 2)) (.loc 3)) (.loc 4)) (.nil)))))) (.nil)))))
  (.cons (.aug 5 .Add (.list (.cons (.tuple (.cons (.loc 0) (.cons (.loc 2) (.cons (.loc 1) (.cons (.bin .Add (.bin .Mult (.const (.int 2)) (.loc 3)) (.loc 4)) (.nil)))))) (.cons (.tuple (.cons (.loc 0) (.cons (.loc 1) (.cons (.loc 2) (.cons (.bin .Sub (.bin .Mult (.const (.int 4)) (.loc 3)) (.loc 4)) (.nil)))))) (.nil)))))
  (.cons (.aug 5 .Add (.list (.cons (.tuple (.cons (.loc 1) (.cons (.loc 0) (.cons (.loc 2) (.cons (.bin .Add (.bin .Mult (.const (.int 4)) (.loc 3)) (.loc 4)) (.nil)))))) (.cons (.tuple (.cons (.loc 2) (.cons (.loc 0) (.cons (.loc 1) (.cons (.bin .Sub (.bin .Mult (.const (.int 6)) (.loc 3)) (.loc 4)) (.nil)))))) (.nil)))))
  (.cons (.assign (.name 6) (.list (.nil)))
  (.cons (.for_ (.tup [7, 8, 9, 10]) (.loc 5) B_lawrows_1)
  (.cons (.ret (.loc 6))
  (.nil))))))))
noncomputable def gv_lawrows : Nat → Option AV := fun j => ([.fn 0, .bi .round, .bi .isinstance, .typ .float] : List AV)[j]?
noncomputable def fns_lawrows : Fns := fun k args objs Q => (k = 0 ∧ fnW gv_rgbtohsv fns_rgbtohsv 3 B_rgbtohsv args objs Q)
noncomputable def K_law : Keys := ⟨["script", "cells", "rows", "k", "low", "mid", "high", "rest", "more", "white", "at", "line"], ["range", "len", "sorted", "_law_rows", "min"], ["at"], []⟩
noncomputable def B_law_1 : PSs := .cons (.assign (.tup [4, 5, 6]) (.call (.glob 2) (.cons (.comp (.bin .Mod (.loc 0) (.const (.int 2049))) none [] [] (.slAll (.loc 1) (.loc 3) (.bin .Add (.loc 3) (.const (.int 3)))) (.nil)) (.nil))))
  (.cons (.assign (.name 7) (.bin .Mod (.sub (.loc 1) (.bin .Add (.loc 3) (.const (.int 3)))) (.bin .Pow (.const (.int 2)) (.const (.int 22)))))
  (.cons (.assign (.name 8) (.bin .Add (.const (.int 1)) (.bin .Mod (.bin .Add (.loc 7) (.const (.int 36))) (.const (.int 2048)))))
  (.cons (.assign (.name 9) (.bin .Sub (.bin .Pow (.const (.int 2)) (.const (.int 22))) (.loc 7)))
  (.cons (.aug 2 .Add (.call (.glob 3) (.cons (.loc 4) (.cons (.loc 5) (.cons (.loc 6) (.nil))))))
  (.cons (.aug 2 .Add (.call (.glob 3) (.cons (.bin .Mult (.loc 8) (.loc 4)) (.cons (.bin .Mult (.loc 8) (.loc 5)) (.cons (.bin .Mult (.loc 8) (.loc 6)) (.nil))))))
  (.cons (.aug 2 .Add (.call (.glob 3) (.cons (.bin .Add (.loc 9) (.bin .Mult (.loc 8) (.loc 4))) (.cons (.bin .Add (.loc 9) (.bin .Mult (.loc 8) (.loc 5))) (.cons (.bin .Add (.loc 9) (.bin .Mult (.loc 8) (.loc 6))) (.nil))))))
  (.cons (.aug 2 .Add (.call (.glob 3) (.cons (.bin .Mult (.loc 8) (.loc 4)) (.cons (.call (.glob 4) (.cons (.bin .Add (.bin .Mult (.loc 8) (.loc 5)) (.const (.int 1))) (.cons (.bin .Mult (.loc 8) (.loc 6)) (.nil)))) (.cons (.bin .Mult (.loc 8) (.loc 6)) (.nil))))))
  (.nil))))))))
noncomputable def B_law_2 : PSs := .cons (.ifs (.bools true (.cons (.cmp .Eq (.sub (.sub (.loc 11) (.bin .Sub (.loc 3) (.const (.int 1)))) (.const (.int 0))) (.sub (.sub (.loc 11) (.loc 3)) (.const (.int 0)))) (.cons (.cmp .NotEq (.sub (.sub (.loc 11) (.bin .Sub (.loc 3) (.const (.int 1)))) (.const (.int 1))) (.sub (.sub (.loc 11) (.loc 3)) (.const (.int 1)))) (.nil)))) (.cons (.ret (.const (.bool false)))
  (.nil)) (.nil))
  (.cons (.ifs (.bools true (.cons (.cmp .Lt (.sub (.sub (.loc 11) (.bin .Sub (.loc 3) (.const (.int 1)))) (.const (.int 0))) (.sub (.sub (.loc 11) (.loc 3)) (.const (.int 0)))) (.cons (.cmp .GtE (.sub (.sub (.loc 11) (.bin .Sub (.loc 3) (.const (.int 1)))) (.const (.int 1))) (.sub (.sub (.loc 11) (.loc 3)) (.const (.int 1)))) (.nil)))) (.cons (.ret (.const (.bool false)))
  (.nil)) (.nil))
  (.nil))
noncomputable def B_law_3 : PSs := .cons (.assign (.name 11) (.call (.glob 2) (.cons (.comp (.tuple (.cons (.sub (.loc 0) (.loc 3)) (.cons (.sub (.loc 1) (.loc 3)) (.nil)))) (some 3) [10] [] (.loc 2) (.nil)) (.nil))))
  (.cons (.for_ (.name 3) (.call (.glob 0) (.cons (.const (.int 1)) (.cons (.call (.glob 1) (.cons (.loc 11) (.nil))) (.nil)))) B_law_2)
  (.nil))
noncomputable def B_law : PSs := .cons (.assign (.name 0) (.slTo (.loc 0) (.const (.int 32))))
  (.cons (.assign (.name 1) (.bin .Add (.bin .Add (.list (.cons (.const (.int 700)) (.cons (.const (.int 1100)) (.cons (.const (.int 1900)) (.cons (.const (.int 0)) (.nil)))))) (.loc 0)) (.list (.cons (.const (.int 0)) (.cons (.const (.int 0)) (.cons (.const (.int 0)) (.nil)))))))
  (.cons (.assign (.name 2) (.list (.nil)))
  (.cons (.for_ (.name 3) (.call (.glob 0) (.cons (.const (.int 0)) (.cons (.bin .Sub (.call (.glob 1) (.cons (.loc 1) (.nil))) (.const (.int 3))) (.cons (.const (.int 4)) (.nil))))) B_law_1)
  (.cons (.ifs (.cmp .NotEq (.comp (.loc 0) (some 3) [] [] (.loc 2) (.cons (.not (.loc 2)) (.nil))) (.list (.nil))) (.cons (.ret (.const (.bool false)))
  (.nil)) (.nil))
  (.cons (.for_ (.name 10) (.call (.glob 0) (.cons (.const (.int 2)) (.nil))) B_law_3)
  (.cons (.ret (.const (.bool true)))
  (.nil)))))))
noncomputable def gv_law : Nat → Option AV := fun j => ([.typ .range, .bi .len, .bi .sorted, .fn 1, .bi .min] : List AV)[j]?
noncomputable def fns_law : Fns := fun k args objs Q => (k = 1 ∧ fnW gv_lawrows fns_lawrows 3 B_lawrows args objs Q)
theorem some_rgbtohsv : ((recsOf hd05.view_39).find? (fun e => e.name == ("rgb_to_hsv" : Str))).isSome = true := by decide +kernel
noncomputable def d_rgbtohsv : DefRec := ((recsOf hd05.view_39).find? (fun e => e.name == ("rgb_to_hsv" : Str))).get some_rgbtohsv
theorem d_rgbtohsv_name : d_rgbtohsv.name = "rgb_to_hsv" := by decide +kernel
theorem def_rgbtohsv (P : PF) (hp : P.p = hd05.view_39) : DefIs P d_rgbtohsv 3 K_rgbtohsv B_rgbtohsv where
  mem := by rw [hp]; exact List.mem_of_find?_eq_some (Option.some_get some_rgbtohsv).symm
  body := by decide +kernel
  nodup := by decide +kernel
  params := by
    intro vals hv pm cdv doc
    match vals, hv with
    | [a, b, c], _ => kernel_rfl
  hnp := by decide +kernel
  plain := by decide +kernel
  locs := by decide +kernel
  globs := by decide +kernel
  kind := by decide +kernel
  gen := by decide +kernel
  co := by decide +kernel
  cells := ⟨by decide +kernel, by decide +kernel⟩
theorem some_lawrows : ((recsOf hd05.view_39).find? (fun e => e.name == ("_law_rows" : Str))).isSome = true := by decide +kernel
noncomputable def d_lawrows : DefRec := ((recsOf hd05.view_39).find? (fun e => e.name == ("_law_rows" : Str))).get some_lawrows
theorem d_lawrows_name : d_lawrows.name = "_law_rows" := by decide +kernel
theorem def_lawrows (P : PF) (hp : P.p = hd05.view_39) : DefIs P d_lawrows 3 K_lawrows B_lawrows where
  mem := by rw [hp]; exact List.mem_of_find?_eq_some (Option.some_get some_lawrows).symm
  body := by decide +kernel
  nodup := by decide +kernel
  params := by
    intro vals hv pm cdv doc
    match vals, hv with
    | [a, b, c], _ => kernel_rfl
  hnp := by decide +kernel
  plain := by decide +kernel
  locs := by decide +kernel
  globs := by decide +kernel
  kind := by decide +kernel
  gen := by decide +kernel
  co := by decide +kernel
  cells := ⟨by decide +kernel, by decide +kernel⟩
structure Facts (P : PF) (fa : FA) : Prop where
  g_rgbtohsv : GOK P fa K_rgbtohsv.globs gv_rgbtohsv
  g_lawrows : GOK P fa K_lawrows.globs gv_lawrows
  g_law : GOK P fa K_law.globs gv_law
  at_rgbtohsv : P.mg d_rgbtohsv.name = some (.ref (fa.addr 0))
  at_lawrows : P.mg d_lawrows.name = some (.ref (fa.addr 1))
  p : P.p = hd05.view_39
theorem facts {prog : Program} {w : World} {mean : ExcName → Option Value} {mg mb : Str → Option Value} {h : Heap}
    (T : Top hd05.view_39 (looseW hd05.view_39 []) mean mg mb h) (V : LooseAre [] mg h) :
    Facts ⟨prog, w, hd05.view_39, looseW hd05.view_39 [], mean, mg, mb⟩ (faOf mg h ["rgb_to_hsv", "_law_rows"]) := by
  have h_rgbtohsv := fa_at T (def_rgbtohsv ⟨prog, w, hd05.view_39, [], mean, mg, mb⟩ rfl).mem (names := ["rgb_to_hsv", "_law_rows"]) (k := 0) (by rw [d_rgbtohsv_name]; rfl)
  have h_lawrows := fa_at T (def_lawrows ⟨prog, w, hd05.view_39, [], mean, mg, mb⟩ rfl).mem (names := ["rgb_to_hsv", "_law_rows"]) (k := 1) (by rw [d_lawrows_name]; rfl)
  refine ⟨?_, ?_, ?_, h_rgbtohsv.1, h_lawrows.1, rfl⟩
  · refine ⟨fun j x v hx hg => ?_⟩
    match j, hx, hg with
    | 0, hx, hg => cases hx; cases hg; exact ⟨by decide +kernel, .builtin "max", rfl, .inr (glob_bi T (v := .builtin "max") (by decide +kernel) (by decide +kernel) (by decide +kernel) (by decide +kernel) (by decide +kernel) (by decide +kernel) (by decide +kernel))⟩
    | 1, hx, hg => cases hx; cases hg; exact ⟨by decide +kernel, .builtin "min", rfl, .inr (glob_bi T (v := .builtin "min") (by decide +kernel) (by decide +kernel) (by decide +kernel) (by decide +kernel) (by decide +kernel) (by decide +kernel) (by decide +kernel))⟩
    | j + 2, hx, hg => cases hg
  · refine ⟨fun j x v hx hg => ?_⟩
    match j, hx, hg with
    | 0, hx, hg => cases hx; cases hg; refine ⟨by decide +kernel, .ref _, ⟨rfl, h_rgbtohsv.2⟩, .inl ?_⟩; have := h_rgbtohsv.1; rw [d_rgbtohsv_name] at this; exact this
    | 1, hx, hg => cases hx; cases hg; exact ⟨by decide +kernel, .builtin "round", rfl, .inr (glob_bi T (v := .builtin "round") (by decide +kernel) (by decide +kernel) (by decide +kernel) (by decide +kernel) (by decide +kernel) (by decide +kernel) (by decide +kernel))⟩
    | 2, hx, hg => cases hx; cases hg; exact ⟨by decide +kernel, .builtin "isinstance", rfl, .inr (glob_bi T (v := .builtin "isinstance") (by decide +kernel) (by decide +kernel) (by decide +kernel) (by decide +kernel) (by decide +kernel) (by decide +kernel) (by decide +kernel))⟩
    | 3, hx, hg => cases hx; cases hg; exact ⟨by decide +kernel, .type "float", rfl, .inr (glob_bi T (v := .type "float") (by decide +kernel) (by decide +kernel) (by decide +kernel) (by decide +kernel) (by decide +kernel) (by decide +kernel) (by decide +kernel))⟩
    | j + 4, hx, hg => cases hg
  · refine ⟨fun j x v hx hg => ?_⟩
    match j, hx, hg with
    | 0, hx, hg => cases hx; cases hg; exact ⟨by decide +kernel, .type "range", rfl, .inr (glob_bi T (v := .type "range") (by decide +kernel) (by decide +kernel) (by decide +kernel) (by decide +kernel) (by decide +kernel) (by decide +kernel) (by decide +kernel))⟩
    | 1, hx, hg => cases hx; cases hg; exact ⟨by decide +kernel, .builtin "len", rfl, .inr (glob_bi T (v := .builtin "len") (by decide +kernel) (by decide +kernel) (by decide +kernel) (by decide +kernel) (by decide +kernel) (by decide +kernel) (by decide +kernel))⟩
    | 2, hx, hg => cases hx; cases hg; exact ⟨by decide +kernel, .builtin "sorted", rfl, .inr (glob_bi T (v := .builtin "sorted") (by decide +kernel) (by decide +kernel) (by decide +kernel) (by decide +kernel) (by decide +kernel) (by decide +kernel) (by decide +kernel))⟩
    | 3, hx, hg => cases hx; cases hg; refine ⟨by decide +kernel, .ref _, ⟨rfl, h_lawrows.2⟩, .inl ?_⟩; have := h_lawrows.1; rw [d_lawrows_name] at this; exact this
    | 4, hx, hg => cases hx; cases hg; exact ⟨by decide +kernel, .builtin "min", rfl, .inr (glob_bi T (v := .builtin "min") (by decide +kernel) (by decide +kernel) (by decide +kernel) (by decide +kernel) (by decide +kernel) (by decide +kernel) (by decide +kernel))⟩
    | j + 5, hx, hg => cases hg
theorem ok_rgbtohsv {P : PF} {fa : FA} (X : Facts P fa) (r : Nat) : ∀ C : Cx, C.K = K_rgbtohsv → C.gval = gv_rgbtohsv → C.fns = fns_rgbtohsv → C.fa = fa → FrameOf P C (r + 0) → (∀ x, C.env.kindOf x = d_rgbtohsv.scope.names.lookup x) → (∃ b names, C.env.cells = cellsFrom b names [] ∧ CellsOk C.K names) → CxOK C := by
  intro C hK hgv hf hfa Fo hk hc
  have D := def_rgbtohsv P X.p
  refine frame_ok Fo (by rw [hK, hgv, hfa]; exact X.g_rgbtohsv) (by rw [hK]; exact D.nodup) (by rw [hK]; intro x hx; rw [hk]; exact D.locs x hx) (by rw [hK]; intro x hx hf; rw [hk]; exact D.globs x hx hf) hc ?_
  intro fz k args cargs σ Q s m ad news T R ra q
  rw [hf] at q
  exact q.elim
theorem ok_lawrows {P : PF} {fa : FA} (X : Facts P fa) (r : Nat) : ∀ C : Cx, C.K = K_lawrows → C.gval = gv_lawrows → C.fns = fns_lawrows → C.fa = fa → FrameOf P C (r + 1) → (∀ x, C.env.kindOf x = d_lawrows.scope.names.lookup x) → (∃ b names, C.env.cells = cellsFrom b names [] ∧ CellsOk C.K names) → CxOK C := by
  intro C hK hgv hf hfa Fo hk hc
  have D := def_lawrows P X.p
  refine frame_ok Fo (by rw [hK, hgv, hfa]; exact X.g_lawrows) (by rw [hK]; exact D.nodup) (by rw [hK]; intro x hx; rw [hk]; exact D.locs x hx) (by rw [hK]; intro x hx hf; rw [hk]; exact D.globs x hx hf) hc ?_
  intro fz k args cargs σ Q s m ad news T R ra q
  rw [hf] at q
  obtain ⟨rfl, q⟩ := q
  exact call_def (C := { C with fz := fz }) (room := r + 0) (Fo.fz fz) (def_rgbtohsv P X.p) (by show _ = some (Value.ref (C.fa.addr _)); rw [hfa]; exact X.at_rgbtohsv) (fun C' h1 h2 h3 h4 h5 h6 h7 => ok_rgbtohsv X r C' h1 h2 h3 (h4.trans hfa) h5 h6 h7) args cargs σ Q s m ad news T R ra q
theorem ok_law {P : PF} {fa : FA} (X : Facts P fa) (r : Nat) : ∀ C : Cx, C.K = K_law → C.gval = gv_law → C.fns = fns_law → C.fa = fa → FrameOf P C (r + 2) → (∀ x ∈ K_law.names, (x == ("__debug__" : Str)) = false ∧ (x ∉ K_law.cells → C.env.kindOf x = some .local) ∧ (x ∈ K_law.cells → C.env.kindOf x = some .cell)) → (∀ x ∈ K_law.globs, x ∉ K_law.far → C.env.kindOf x = some .globalImplicit) → (∃ b names, C.env.cells = cellsFrom b names [] ∧ CellsOk K_law names) → CxOK C := by
  intro C hK hgv hf hfa Fo hl hg hc
  refine frame_ok Fo (by rw [hK, hgv, hfa]; exact X.g_law) (by rw [hK]; decide +kernel) (by rw [hK]; exact hl) (by rw [hK]; exact hg) (by rw [hK]; exact hc) ?_
  intro fz k args cargs σ Q s m ad news T R ra q
  rw [hf] at q
  obtain ⟨rfl, q⟩ := q
  exact call_def (C := { C with fz := fz }) (room := r + 1) (Fo.fz fz) (def_lawrows P X.p) (by show _ = some (Value.ref (C.fa.addr _)); rw [hfa]; exact X.at_lawrows) (fun C' h1 h2 h3 h4 h5 h6 h7 => ok_lawrows X r C' h1 h2 h3 (h4.trans hfa) h5 h6 h7) args cargs σ Q s m ad news T R ra q
end Mine
namespace Mine
open PySem PySem.W PySem.Float64

local macro_rules | `(tactic| walk_at "ev loc") => `(tactic| first | exact loc_set_eq | ((with_reducible refine loc_set_ne ?hd ?_); (case hd => decide); walk_at "ev loc") | (with_reducible refine loc_alloc ?_; walk_at "ev loc") | assumption | exact rfl)
local macro_rules | `(tactic| walk_at "ev objs") => `(tactic| first | ((with_reducible refine' objs_set ?hx); (case hx => walk_at "ev objs")) | ((with_reducible refine' objs_alloc ?hx); (case hx => walk_at "ev objs")) | assumption | exact rfl)
local macro_rules | `(tactic| walk_at "ev") => `(tactic| first
  | with_reducible apply i_const
  | ((with_reducible refine' i_loc ?hl ?_); (case hl => walk_at "ev loc"))
  | ((with_reducible refine' i_glob ?hl ?_); (case hl => exact rfl); (try refine ⟨rfl, ?_⟩))
  | (with_reducible first | apply i_bin | apply i_cmp | apply i_call | apply i_es_cons | apply i_es_nil | apply i_assign | apply i_assignT | apply i_if | apply b_name | apply i_ret | apply i_nil | apply i_truth | apply i_bools | apply i_br_nil | refine i_and ?_ ?_ | refine i_or ?_ ?_ | apply i_sub | apply i_slTo | apply i_slAll | apply i_tuple | apply i_list | apply i_not | apply o_addI | apply o_subI | apply o_addF | apply o_subF | apply o_mulF | apply k_min | apply k_range1 | apply k_range2)
  | ((with_reducible first | apply c_int | apply c_flt); exact rfl))

theorem hsv_gives (r g b : UInt64) (objs : List (List AV)) (Q : AV → List (List AV) → Prop) (hz : fcmp .Eq (Float64.cmp (fmin3 r g b) (fmax3 r g b)) = false → isZero (fmax3 r g b) = false ∧ isZero (sub (fmax3 r g b) (fmin3 r g b)) = false)
    (h : Q (.tup (hsvOf r g b)) objs) : fnW gv_rgbtohsv fns_rgbtohsv 3 B_rgbtohsv [.float r, .float g, .float b] objs Q := by
  refine ⟨rfl, ?_⟩
  unfold B_rgbtohsv
  unfold hsvOf at h
  repeat' (first | walk_at "ev" | refine k_max3 ?_ | refine k_min3 ?_ | dsimp only)
  refine ⟨fun hc => ?_, fun hc => ?_⟩
  · rw [if_pos hc] at h
    repeat' (first | walk_at "ev" | dsimp only)
    exact ⟨show 3 ≤ sizeLine by decide, h⟩
  · rw [if_neg (by rw [hc]; decide)] at h
    obtain ⟨z1, z2⟩ := hz hc
    unfold hueFin hueOf at h
    generalize fmax3 r g b = M at *
    generalize fmin3 r g b = n at *
    repeat' (first | walk_at "ev" | refine o_divF z1 ?_ | refine o_divF z2 ?_ | dsimp only)
    refine ⟨fun hc1 => ?_, fun hc1 => ?_⟩
    · rw [if_pos hc1] at h
      repeat' (first | walk_at "ev" | refine o_divF z1 ?_ | refine o_divF z2 ?_ | refine o_divF (by decide +kernel) ?_ | (rw [lit_one]; refine o_modF one_nz ?_) | dsimp only)
      exact ⟨show 3 ≤ sizeLine by decide, h⟩
    · rw [if_neg (by rw [hc1]; decide)] at h
      repeat' (first | walk_at "ev" | refine o_divF z1 ?_ | refine o_divF z2 ?_ | refine o_divF (by decide +kernel) ?_ | (rw [lit_one]; refine o_modF one_nz ?_) | dsimp only)
      refine ⟨fun hc2 => ?_, fun hc2 => ?_⟩
      · rw [if_pos hc2] at h
        repeat' (first | walk_at "ev" | refine o_divF z1 ?_ | refine o_divF z2 ?_ | refine o_divF (by decide +kernel) ?_ | (rw [lit_one]; refine o_modF one_nz ?_) | dsimp only)
        exact ⟨show 3 ≤ sizeLine by decide, h⟩
      · rw [if_neg (by rw [hc2]; decide)] at h
        repeat' (first | walk_at "ev" | refine o_divF z1 ?_ | refine o_divF z2 ?_ | refine o_divF (by decide +kernel) ?_ | (rw [lit_one]; refine o_modF one_nz ?_) | dsimp only)
        exact ⟨show 3 ≤ sizeLine by decide, h⟩

theorem i_append {g : Nat → Option AV} {fns : Fns} {σ : St} {P : Fl → St → Prop} {o e : PE} {ss : PSs} (h : wpE g fns o σ fun v σ₁ => ∃ i, (v = .lst i ∧ i ∈ σ₁.own) ∧ wpE g fns e σ₁ fun u σ₂ => ∃ l, (σ₂.objs[i]? = some l ∧ i ∈ σ₂.own ∧ l.length < 2 ^ 20) ∧ wpSs g fns ss { σ₂ with objs := σ₂.objs.set i (l ++ [u]) } P) : wpSs g fns (.cons (.append o e) ss) σ P := h
noncomputable def noneF : AV → Option AV := fun _ => none
theorem floats_turn {ℓ : Nat → Option AV} {elt : PE} (x : UInt64) (objs : List (List AV)) (K : Option AV → List (List AV) → Prop) (h : K none objs) :
    compTurnW gv_lawrows ℓ elt none [] [2, 3] (.cons (.not (.call (.glob 0) (.cons (.loc 0) (.cons (.glob 1) (.nil))))) (.nil)) (.float x) objs K := by
  show wpE _ _ _ _ _
  repeat' (first | walk_at "ev" | refine k_isF ?_ | dsimp only)
  refine ⟨(by intro hc; cases hc), fun _ => ?_⟩
  exact ⟨(by intro hc; cases hc), fun _ => h⟩

noncomputable def rowOf (d1 d2 : Int) (z1 z2 z3 : UInt64) : AV := .tup [.tup [.int d1, .int d2], .tup [.float z1, .float z2, .float z3], .bool true]
noncomputable def RowOk (v : AV) : Prop := ∃ d1 d2 z1 z2 z3, v = rowOf d1 d2 z1 z2 z3 ∧ HueOk d1 z1 ∧ SatOk d2 z2
theorem is23 {R : Int} (h : 0 ≤ R ∧ R ≤ 2 ^ 23) : Is (divII R 8388608) R 23 := Is.div (p := R) (q := 8388608) (n := R) (e := 23) (by decide) (by rfl) (by omega) (by decide)
noncomputable def tail05 : PSs := match B_lawrows_1 with | .cons _ (.cons _ t) => t | x => x
theorem body05b {σ : St} {h s R G B d1 d2 : Int} {rr : Nat} {rows : List AV} {hue sat M : UInt64} {P : Fl → St → Prop} (f2 : σ.loc 2 = some (.int h)) (f3 : σ.loc 3 = some (.int s)) (f6 : σ.loc 6 = some (.lst rr))
    (fR : σ.loc 7 = some (.int R)) (fG : σ.loc 8 = some (.int G)) (fB : σ.loc 9 = some (.int B)) (f11 : σ.loc 11 = some (.tup [.int d1, .int d2]))
    (bR : 0 ≤ R ∧ R ≤ 2 ^ 23) (bG : 0 ≤ G ∧ G ≤ 2 ^ 23) (bB : 0 ≤ B ∧ B ≤ 2 ^ 23) (bh : 0 ≤ h ∧ h ≤ 2 ^ 23)
    (hrows : σ.objs[rr]? = some rows) (hown : rr ∈ σ.own) (hlen : rows.length < 100) (hM : Is M h 23)
    (hz : fcmp .Eq (Float64.cmp (fmin3 (divII R 8388608) (divII G 8388608) (divII B 8388608)) (fmax3 (divII R 8388608) (divII G 8388608) (divII B 8388608))) = false → isZero (fmax3 (divII R 8388608) (divII G 8388608) (divII B 8388608)) = false ∧ isZero (sub (fmax3 (divII R 8388608) (divII G 8388608) (divII B 8388608)) (fmin3 (divII R 8388608) (divII G 8388608) (divII B 8388608))) = false)
    (hsv : hsvOf (divII R 8388608) (divII G 8388608) (divII B 8388608) = [.float hue, .float sat, .float M]) (fin : isFinite (mul (ofInt h) sat) = true) (rnd : Flt.toInt nearestOf (mul (ofInt h) sat) = s)
    (hP : ∀ σ', (∀ n, n < 7 → σ'.loc n = σ.loc n) → σ'.objs[rr]? = some (rows ++ [rowOf d1 d2 hue sat M]) → (∀ (j : Nat) (o : List AV), j ≠ rr → σ.objs[j]? = some o → σ'.objs[j]? = some o) → rr ∈ σ'.own → P .next σ') : wpSs gv_lawrows fns_lawrows tail05 σ P := by
  unfold tail05 B_lawrows_1
  dsimp only
  obtain ⟨o, ho⟩ : ∃ o, σ.objs = o := ⟨_, rfl⟩
  repeat' (first | walk_at "ev" | refine o_powI (by decide) (by decide) (by decide) ?_ | refine o_divI (by decide) (small_fits (by (first | lia | omega))) ?_ | dsimp only)
  refine ⟨rfl, hsv_gives _ _ _ _ _ hz ?_⟩
  rw [show hsvOf (divII R (2 ^ Int.toNat 23)) (divII G (2 ^ Int.toNat 23)) (divII B (2 ^ Int.toNat 23)) = [.float hue, .float sat, .float M] from hsv]
  clear hz hsv
  have iv : Is (divII h (2 ^ Int.toNat 23)) h 23 := is23 bh
  have ec : fcmp .Eq (Float64.cmp M (divII h (2 ^ Int.toNat 23))) = true := by rw [eq_is hM iv]; simp
  have ec2 : icmp .Eq s s = true := by simp [icmp]
  repeat' (first | rw [ec] | walk_at "ev" | refine o_powI (by decide) (by decide) (by decide) ?_ | refine s_tup (by decide) (by decide) rfl ?_ | refine o_divI (by decide) (small_fits (by (first | lia | omega))) ?_ | dsimp only)
  rotate_left
  · intro hf; cases hf
  intro _
  repeat' (first | walk_at "ev" | refine o_powI (by decide) (by decide) (by decide) ?_ | refine s_tup (by decide) (by decide) rfl ?_ | refine o_mulIF (small_fits (by (first | lia | omega))) ?_ | refine k_round fin ?_ | dsimp only)
  rw [rnd, ec2]
  refine i_append (i_loc (by walk_at "ev loc") ⟨rr, ⟨rfl, hown⟩, ?_⟩)
  repeat' (first | walk_at "ev" | dsimp only)
  rotate_left
  · intro hf; cases hf
  intro _
  refine i_cmp (i_comp ?_)
  repeat' (first | walk_at "ev" | dsimp only)
  refine t_tup ?_
  refine' l_comp noneF ?ho2 ?hz ?_ ?_
  case ho2 => walk_at "ev objs"
  case hz => exact (show 3 ≤ sizeLine by decide)
  · intro u hu objs K hK
    simp only [List.mem_cons, List.not_mem_nil, or_false] at hu
    rcases hu with rfl | rfl | rfl <;> exact floats_turn _ _ _ hK
  repeat' (first | walk_at "ev" | dsimp only)
  refine l_new (by walk_at "ev objs") (show 0 ≤ sizeLine by decide) ?_
  refine c_eqL (o := o ++ [[]] ++ [[]]) (l := []) (k := []) (ns := []) (ms := []) ?hob (get_app get_last) get_last rfl rfl ?_
  case hob => exact congrArg (fun o => o ++ [[]] ++ [[]]) ho
  repeat' (first | walk_at "ev" | dsimp only)
  have hlt : rr < o.length := by rw [← ho]; exact (List.getElem?_eq_some_iff.mp hrows).1
  have keep : ∀ (j : Nat) (q : List AV), σ.objs[j]? = some q → (((({ loc := σ.loc, objs := σ.objs, own := σ.own } : St).set 12 (AV.tup [AV.float hue, AV.float sat, AV.float M])).set 13 (AV.bool true)).alloc (List.filterMap noneF [AV.float hue, AV.float sat, AV.float M]) |>.alloc []).objs[j]? = some q := fun j q hq => get_app (get_app hq)
  refine ⟨show 3 ≤ sizeLine by decide, rows, ⟨keep _ _ hrows, List.mem_cons_of_mem _ (List.mem_cons_of_mem _ hown), by (first | lia | omega)⟩, ?_⟩
  refine i_nil (hP _ (fun n hn => ?_) (get_set (keep _ _ hrows)) (fun j q hj hq => get_set_ne hj (keep _ _ hq)) (List.mem_cons_of_mem _ (List.mem_cons_of_mem _ hown)))
  simp only [St.set, St.alloc, upd]
  repeat rw [if_neg (by (first | lia | omega))]

theorem body05 {σ : St} {l h R G B gone : Int} {rr : Nat} {rows : List AV} {P : Fl → St → Prop} (f2 : σ.loc 2 = some (.int h)) (f3 : σ.loc 3 = some (.int (h - l))) (f6 : σ.loc 6 = some (.lst rr))
    (fR : σ.loc 7 = some (.int R)) (fG : σ.loc 8 = some (.int G)) (fB : σ.loc 9 = some (.int B)) (fg : σ.loc 10 = some (.int gone))
    (bR : 0 ≤ R ∧ R ≤ 2 ^ 23) (bG : 0 ≤ G ∧ G ≤ 2 ^ 23) (bB : 0 ≤ B ∧ B ≤ 2 ^ 23) (h0 : 0 ≤ l) (h1 : l ≤ h) (h2 : h ≤ 2 ^ 23) (h3 : h - l ≤ 2 ^ 22)
    (hrows : σ.objs[rr]? = some rows) (hown : rr ∈ σ.own) (hlen : rows.length < 100)
    (H : Col l h gone 23 (divII R 8388608) (divII G 8388608) (divII B 8388608))
    (hP : ∀ σ' row, RowOk row → (∀ n, n < 7 → σ'.loc n = σ.loc n) → σ'.objs[rr]? = some (rows ++ [row]) → (∀ (j : Nat) (o : List AV), j ≠ rr → σ.objs[j]? = some o → σ'.objs[j]? = some o) → rr ∈ σ'.own → P .next σ') : wpSs gv_lawrows fns_lawrows B_lawrows_1 σ P := by
  obtain ⟨hz, hue, sat, hsv, q1, q2, fin, rnd⟩ := told5 H h0 h1 h2 h3
  have go : ∀ σ' d1 d2, d1 = dueH gone (h - l) → d2 = dueS (h - l) h → (∀ n, n < 11 → σ'.loc n = σ.loc n) → σ'.loc 11 = some (.tup [.int d1, .int d2]) → σ'.objs = σ.objs → σ'.own = σ.own → wpSs gv_lawrows fns_lawrows tail05 σ' P := by
    rintro σ' d1 d2 rfl rfl k1 k2 k3 k4
    refine body05b ((k1 2 (by decide)).trans f2) ((k1 3 (by decide)).trans f3) ((k1 6 (by decide)).trans f6) ((k1 7 (by decide)).trans fR) ((k1 8 (by decide)).trans fG) ((k1 9 (by decide)).trans fB) k2 bR bG bB ⟨by (first | lia | omega), h2⟩ (by rw [k3]; exact hrows) (by rw [k4]; exact hown) hlen H.hM hz hsv fin rnd ?_
    intro σ2 e1 e2 e3 e4
    exact hP σ2 _ ⟨_, _, _, _, _, rfl, q1, q2⟩ (fun n hn => (e1 n hn).trans (k1 n (by (first | lia | omega)))) e2 (fun j o hj ho => e3 j o hj (by rw [k3]; exact ho)) e4
  unfold B_lawrows_1
  show wpSs gv_lawrows fns_lawrows (.cons _ (.cons _ tail05)) σ P
  repeat' (first | walk_at "ev" | dsimp only)
  refine ⟨show 2 ≤ sizeLine by decide, ?_⟩
  repeat' (first | walk_at "ev" | dsimp only)
  refine ⟨fun hc => ?_, fun hc => ?_⟩
  · have hs : h - l ≠ 0 := by intro e; simp [icmp, e] at hc
    have rg := mod_rng gone (b := 6 * (h - l)) (by (first | lia | omega))
    repeat' (first | walk_at "ev" | refine o_powI (by decide) (by decide) (by decide) ?_ | refine o_mulI (mulOk_l (by decide)) ?_ | refine o_modI (by (first | lia | omega)) ?_ | refine o_mulI (mulOk_l (by (first | lia | omega))) ?_ | refine o_fdivI (by (first | lia | omega)) (log_small (by (first | lia | omega))) ?_ | (refine ⟨show 2 ≤ sizeLine by decide, ?_⟩) | dsimp only)
    refine go _ _ _ ?_ ?_ (fun n hn => ?_) loc_set_eq rfl rfl
    · unfold dueH; rw [if_neg hs]; rfl
    · unfold dueS; rw [if_neg hs]; rfl
    · simp only [St.set, upd]
      repeat rw [if_neg (by (first | lia | omega))]
  · have hs : h - l = 0 := by
      simpa [icmp] using hc
    refine go _ _ _ ?_ ?_ (fun n hn => ?_) loc_set_eq rfl rfl
    · unfold dueH; rw [if_pos hs]
    · unfold dueS; rw [if_pos hs]
    · simp only [St.set, upd]
      repeat rw [if_neg (by (first | lia | omega))]

open PySem PySem.W PySem.Float64



theorem mem_frozen {j L : Nat} {own : List Nat} (h : j ∈ own) (hne : j ≠ L) : j ∈ frozen (.lst L) own := List.mem_filter.mpr ⟨h, by simpa using hne⟩
theorem mem_thawed {j L : Nat} {own own' : List Nat} (h : j ∈ own') : j ∈ thawed (.lst L) own own' := by
  show j ∈ if own.contains L = true then L :: own' else own'
  split
  · exact List.mem_cons_of_mem _ h
  · exact h
noncomputable def ring6 (l m h : Int) : List AV := [.tup [.int h, .int m, .int l, .int (m - l)], .tup [.int m, .int h, .int l, .int (2 * (h - l) - (m - l))], .tup [.int l, .int h, .int m, .int (2 * (h - l) + (m - l))], .tup [.int l, .int m, .int h, .int (4 * (h - l) - (m - l))], .tup [.int m, .int l, .int h, .int (4 * (h - l) + (m - l))], .tup [.int h, .int l, .int m, .int (6 * (h - l) - (m - l))]]
theorem ring_col {l m h : Int} {i : Nat} {u : AV} (b1 : 0 ≤ l) (s1 : l ≤ m) (s2 : m ≤ h) (b3 : h ≤ 2 ^ 23) (hu : (ring6 l m h)[i]? = some u) :
    ∃ R G B gone, u = .tup [.int R, .int G, .int B, .int gone] ∧ (0 ≤ R ∧ R ≤ 2 ^ 23) ∧ (0 ≤ G ∧ G ≤ 2 ^ 23) ∧ (0 ≤ B ∧ B ≤ 2 ^ 23) ∧ Col l h gone 23 (divII R 8388608) (divII G 8388608) (divII B 8388608) := by
  have bl : 0 ≤ l ∧ l ≤ 2 ^ 23 := by (first | lia | omega)
  have bm : 0 ≤ m ∧ m ≤ 2 ^ 23 := by (first | lia | omega)
  have bh : 0 ≤ h ∧ h ≤ 2 ^ 23 := by (first | lia | omega)
  have b5 : h ≤ 2 ^ 53 := by (first | lia | omega)
  have i1 := is23 bl
  have i2 := is23 bm
  have i3 := is23 bh
  match i, hu with
  | 0, hu => cases hu; exact ⟨_, _, _, _, rfl, bh, bm, bl, col1 b1 s1 s2 b5 (by decide) i3 i2 i1⟩
  | 1, hu => cases hu; exact ⟨_, _, _, _, rfl, bm, bh, bl, col2 b1 s1 s2 b5 (by decide) i2 i3 i1⟩
  | 2, hu => cases hu; exact ⟨_, _, _, _, rfl, bl, bh, bm, col3 b1 s1 s2 b5 (by decide) i1 i3 i2⟩
  | 3, hu => cases hu; exact ⟨_, _, _, _, rfl, bl, bm, bh, col4 b1 s1 s2 b5 (by decide) i1 i2 i3⟩
  | 4, hu => cases hu; exact ⟨_, _, _, _, rfl, bm, bl, bh, col5 b1 s1 s2 b5 (by decide) i2 i1 i3⟩
  | 5, hu => cases hu; exact ⟨_, _, _, _, rfl, bh, bl, bm, col6 b1 s1 s2 b5 (by decide) i3 i1 i2⟩
  | i + 6, hu => cases hu
noncomputable def rest05 : PSs := match B_lawrows with | .cons _ (.cons _ (.cons _ (.cons _ (.cons _ (.cons _ t))))) => t | x => x
theorem ring_for {l m h : Int} {objs : List (List AV)} {σ : St} {L rr : Nat} {Q : AV → List (List AV) → Prop} (b1 : 0 ≤ l) (s1 : l ≤ m) (s2 : m ≤ h) (b3 : h ≤ 2 ^ 23) (b4 : h - l ≤ 2 ^ 22)
    (f2 : σ.loc 2 = some (.int h)) (f3 : σ.loc 3 = some (.int (h - l))) (f5 : σ.loc 5 = some (.lst L)) (f6 : σ.loc 6 = some (.lst rr)) (hL : σ.objs[L]? = some (ring6 l m h)) (hr : σ.objs[rr]? = some []) (ho : rr ∈ σ.own) (hne : rr ≠ L) (hk : objs.length ≤ rr) (keep : ∀ (j : Nat) (q : List AV), objs[j]? = some q → σ.objs[j]? = some q)
    (hQ : ∀ i objs' rows, objs'[i]? = some rows → rows.length = 6 → (∀ v ∈ rows, RowOk v) → (∀ (j : Nat) (o : List AV), objs[j]? = some o → objs'[j]? = some o) → Q (.lst i) objs') : wpSs gv_lawrows fns_lawrows rest05 σ fun fl σ => match fl with | .ret v => Q v σ.objs | .next => Q .none σ.objs := by
  unfold rest05 B_lawrows
  dsimp only
  refine i_for ?_
  repeat' (first | walk_at "ev" | dsimp only)
  refine t_lst (l := ring6 l m h) rfl hL ?_
  refine ⟨fun i σ' => ((σ'.loc 2 = some (.int h) ∧ σ'.loc 3 = some (.int (h - l)) ∧ σ'.loc 6 = some (.lst rr)) ∧ rr ∈ σ'.own) ∧ ∃ rows, (σ'.objs[rr]? = some rows ∧ rows.length = i) ∧ (∀ v ∈ rows, RowOk v) ∧ ∀ (j : Nat) (q : List AV), objs[j]? = some q → σ'.objs[j]? = some q,
    ⟨⟨⟨f2, f3, f6⟩, ho⟩, [], ⟨hr, rfl⟩, (fun _ hv => nomatch hv), keep⟩, ?_, ?_⟩
  · rintro i u σ' hu ⟨⟨⟨f2, f3, f6⟩, ho⟩, rows, ⟨hr, hl⟩, hok, keep⟩
    obtain ⟨R, G, B, gone, rfl, bR, bG, bB, H⟩ := ring_col b1 s1 s2 b3 hu
    have hi : i < 6 := (List.getElem?_eq_some_iff.mp hu).1
    refine b_tup rfl ?_
    simp only [setAll]
    refine body05 (l := l) (h := h) (R := R) (G := G) (B := B) (gone := gone) (rows := rows) (by walk_at "ev loc") (by walk_at "ev loc") (by walk_at "ev loc") (by walk_at "ev loc") (by walk_at "ev loc") (by walk_at "ev loc") (by walk_at "ev loc") bR bG bB b1 (by omega) b3 b4 hr (mem_frozen ho hne) (by omega) H ?_
    intro σ2 row q1 q2 q3 q4 q5
    refine ⟨⟨⟨(q2 2 (by decide)).trans (by walk_at "ev loc"), (q2 3 (by decide)).trans (by walk_at "ev loc"), (q2 6 (by decide)).trans (by walk_at "ev loc")⟩, mem_thawed q5⟩, _, ⟨q3, by rw [List.length_append, hl]; rfl⟩, fun v hv => ?_, fun j q hj => q4 j q ?_ (keep j q hj)⟩
    · rcases List.mem_append.mp hv with hv | hv
      · exact hok v hv
      · rw [List.mem_singleton.mp hv]; exact q1
    · exact Nat.ne_of_lt (Nat.lt_of_lt_of_le (List.getElem?_eq_some_iff.mp hj).1 hk)
  · rintro σ' ⟨⟨⟨f2, f3, f6⟩, ho⟩, rows, ⟨hr, hl⟩, hok, keep⟩
    exact i_ret (i_loc f6 (hQ _ _ rows hr hl hok keep))
theorem rows_give {l m h : Int} (objs : List (List AV)) (Q : AV → List (List AV) → Prop) (b1 : 0 ≤ l) (s1 : l ≤ m) (s2 : m ≤ h) (b3 : h ≤ 2 ^ 23) (b4 : h - l ≤ 2 ^ 22)
    (hQ : ∀ i objs' rows, objs'[i]? = some rows → rows.length = 6 → (∀ v ∈ rows, RowOk v) → (∀ (j : Nat) (o : List AV), objs[j]? = some o → objs'[j]? = some o) → Q (.lst i) objs') : fnW gv_lawrows fns_lawrows 3 B_lawrows [.int l, .int m, .int h] objs Q := by
  refine ⟨rfl, ?_⟩
  show wpSs gv_lawrows fns_lawrows (.cons _ (.cons _ (.cons _ (.cons _ (.cons _ (.cons _ rest05)))))) _ _
  repeat' (first | walk_at "ev" | refine o_mulI (mulOk_l (by (first | lia | omega))) ?_ | (refine ⟨show 4 ≤ sizeLine by decide, ?_⟩) | dsimp only)
  refine l_new rfl (show 2 ≤ sizeLine by decide) ?_
  refine i_aug (by walk_at "ev loc") ?_
  repeat' (first | walk_at "ev" | refine o_mulI (mulOk_l (by (first | lia | omega))) ?_ | (refine ⟨show 4 ≤ sizeLine by decide, ?_⟩) | dsimp only)
  refine l_new (by walk_at "ev objs") (show 2 ≤ sizeLine by decide) ?_
  refine g_addL (by walk_at "ev objs") (get_app get_last) get_last (by simp [St.set, St.alloc]) ?hz ?_
  case hz => exact (show 2 + 2 ≤ 2 ^ 20 by decide)
  refine i_aug (by walk_at "ev loc") ?_
  repeat' (first | walk_at "ev" | refine o_mulI (mulOk_l (by (first | lia | omega))) ?_ | (refine ⟨show 4 ≤ sizeLine by decide, ?_⟩) | dsimp only)
  refine l_new (by walk_at "ev objs") (show 2 ≤ sizeLine by decide) ?_
  refine g_addL (by walk_at "ev objs") (get_app (get_set (get_app get_last))) get_last (by simp [St.set, St.alloc]) ?hz ?_
  case hz => exact (show 4 + 2 ≤ 2 ^ 20 by decide)
  repeat' (first | walk_at "ev" | dsimp only)
  refine l_new (by walk_at "ev objs") (show 0 ≤ sizeLine by decide) ?_
  refine ring_for (L := objs.length) (rr := objs.length + 3) b1 s1 s2 b3 b4 (by walk_at "ev loc") (by walk_at "ev loc") (by walk_at "ev loc") ?_ (get_app (get_set (get_app (get_set (get_app get_last))))) ?_ ?_ (by (first | lia | omega)) (by (first | lia | omega)) (fun j q hj => ?_) hQ
  · simp [St.set, St.alloc, upd]
  · simp [St.set, St.alloc]
  · simp [St.set, St.alloc]
  · have hlt := (List.getElem?_eq_some_iff.mp hj).1
    have hne : j ≠ objs.length := Nat.ne_of_lt hlt
    exact get_app (get_set_ne hne (get_app (get_set_ne hne (get_app (get_app hj)))))

open PySem PySem.W PySem.Float64



theorem aug_call {σ : St} {l m h : Int} {rr : Nat} {rows : List AV} {K : AV → St → Prop} (b1 : 0 ≤ l) (s1 : l ≤ m) (s2 : m ≤ h) (b3 : h ≤ 2 ^ 23) (b4 : h - l ≤ 2 ^ 22) (hr : σ.objs[rr]? = some rows) (ho : rr ∈ σ.own) (hl : rows.length ≤ 1000) (hok : ∀ v ∈ rows, RowOk v)
    (hK : ∀ objs' rows', rows'.length = rows.length + 6 → (∀ v ∈ rows', RowOk v) → objs'[rr]? = some rows' → (∀ (j : Nat) (q : List AV), j ≠ rr → σ.objs[j]? = some q → objs'[j]? = some q) → K (.lst rr) { σ with objs := objs' }) :
    callW fns_law (.fn 1) [.int l, .int m, .int h] σ fun u σ₁ => augW .Add (.lst rr) u σ₁ K := by
  refine k_fn ⟨rfl, rows_give _ _ b1 s1 s2 b3 b4 fun i objs' rows' h1 h2 h3 h4 => ?_⟩
  refine g_addL rfl (h4 _ _ hr) h1 ho (by (first | lia | omega)) ?_
  refine hK _ (rows ++ rows') (by rw [List.length_append, h2]) (fun v hv => (List.mem_append.mp hv).elim (hok v) (h3 v)) (get_set (h4 _ _ hr)) fun j q hj hq => get_set_ne hj (h4 _ _ hq)
noncomputable def m2049 : AV → Option AV
  | .int x => some (.int (x.fmod 2049))
  | _ => none
theorem m2049_turn {ℓ : Nat → Option AV} (x : Int) (objs : List (List AV)) (K : Option AV → List (List AV) → Prop) (h : K (some (.int (x.fmod 2049))) objs) :
    compTurnW gv_law ℓ (.bin .Mod (.loc 0) (.const (.int 2049))) none [] [] .nil (.int x) objs K := by
  show _ ∧ _
  refine ⟨fun _ => ?_, (by intro hc; cases hc)⟩
  repeat' (first | walk_at "ev" | refine o_modI (by decide) ?_ | dsimp only)
  exact h
structure Law5 (c rr : Nat) (cs : List Int) (rows : List AV) (σ : St) : Prop where
  f1 : σ.loc 1 = some (.lst c)
  f2 : σ.loc 2 = some (.lst rr)
  oc : σ.objs[c]? = some (cs.map .int)
  orr : σ.objs[rr]? = some rows
  own : rr ∈ σ.own
  ok : ∀ v ∈ rows, RowOk v
noncomputable def aug5 : PSs := match B_law_1 with | .cons _ (.cons _ (.cons _ (.cons _ t))) => t | x => x
structure Three (l m h : Int) : Prop where
  b : 0 ≤ l
  lm : l ≤ m
  mh : m ≤ h
  h1 : h ≤ 2 ^ 23
  h2 : h - l ≤ 2 ^ 22
theorem three_of {l m h : Int} (b1 : 0 ≤ l) (s1 : l ≤ m) (s2 : m ≤ h) (b3 : h ≤ 2048) : Three l m h := ⟨b1, s1, s2, Int.le_trans b3 (by decide), by omega⟩
theorem three_more {l m h more : Int} (b1 : 0 ≤ l) (s1 : l ≤ m) (s2 : m ≤ h) (b3 : h ≤ 2048) (m0 : 0 ≤ more) (m1 : more ≤ 2048) : Three (more * l) (more * m) (more * h) ∧ more * h ≤ 2 ^ 22 := by
  have c1 : 0 ≤ more * l := Int.mul_nonneg m0 b1
  have c4 : more * h ≤ 2048 * 2048 := Int.mul_le_mul m1 b3 (Int.le_trans b1 (Int.le_trans s1 s2)) (by decide)
  exact ⟨⟨c1, Int.mul_le_mul_of_nonneg_left s1 m0, Int.mul_le_mul_of_nonneg_left s2 m0, Int.le_trans c4 (by decide), by omega⟩, c4⟩
theorem Three.white {A B D w : Int} (t : Three A B D) (hD : D ≤ 2 ^ 22) (w0 : 1 ≤ w) (w1 : w ≤ 2 ^ 22) : Three (w + A) (w + B) (w + D) :=
  ⟨Int.add_nonneg (Int.le_trans (by decide) w0) t.b, Int.add_le_add_left t.lm _, Int.add_le_add_left t.mh _, Int.add_le_add w1 hD, by rw [Int.add_sub_add_left]; exact t.h2⟩
theorem Three.next {A B D : Int} (t : Three A B D) : Three A (if D < B + 1 then D else B + 1) D := by
  obtain ⟨t1, t2, t3, t4, t5⟩ := t
  refine ⟨t1, ?_, ?_, t4, t5⟩ <;> split <;> omega
theorem aug_call' {σ : St} {l m h : Int} {rr n : Nat} {rows : List AV} {K : AV → St → Prop} (t : Three l m h) (hr : σ.objs[rr]? = some rows) (ho : rr ∈ σ.own) (hn : rows.length = n) (hl : n ≤ 1000) (hok : ∀ v ∈ rows, RowOk v)
    (hK : ∀ objs' rows', rows'.length = n + 6 → (∀ v ∈ rows', RowOk v) → objs'[rr]? = some rows' → (∀ (j : Nat) (q : List AV), j ≠ rr → σ.objs[j]? = some q → objs'[j]? = some q) → K (.lst rr) { σ with objs := objs' }) :
    callW fns_law (.fn 1) [.int l, .int m, .int h] σ fun u σ₁ => augW .Add (.lst rr) u σ₁ K := aug_call t.b t.lm t.mh t.h1 t.h2 hr ho (by rw [hn]; exact hl) hok (by rw [hn]; exact hK)
theorem small_more {x : Int} (h : 1 ≤ x ∧ x ≤ 2048) : x.natAbs < 2 ^ 64 := by omega
theorem add_cap {n : Nat} (h : n ≤ 900) : n + 6 ≤ 1000 ∧ n + 6 + 6 ≤ 1000 ∧ n + 6 + 6 + 6 ≤ 1000 := by omega
theorem aug05 {σ : St} {c rr : Nat} {cs : List Int} {rows : List AV} {l m h more white : Int} {P : Fl → St → Prop} (L : Law5 c rr cs rows σ) (hne : c ≠ rr) (hl : rows.length ≤ 900)
    (f4 : σ.loc 4 = some (.int l)) (f5 : σ.loc 5 = some (.int m)) (f6 : σ.loc 6 = some (.int h)) (f8 : σ.loc 8 = some (.int more)) (f9 : σ.loc 9 = some (.int white))
    (b1 : 0 ≤ l) (s1 : l ≤ m) (s2 : m ≤ h) (b3 : h ≤ 2048) (bm : 1 ≤ more ∧ more ≤ 2048) (bw : 1 ≤ white ∧ white ≤ 2 ^ 22)
    (hP : ∀ σ' rows', Law5 c rr cs rows' σ' → rows'.length = rows.length + 24 → P .next σ') : wpSs gv_law fns_law aug5 σ P := by
  have t0 := three_of b1 s1 s2 b3
  obtain ⟨t, hD⟩ := three_more b1 s1 s2 b3 (Int.le_trans (by decide) bm.1) bm.2
  have tw := t.white hD bw.1 bw.2
  have tn := t.next
  have nb : more.natAbs < 2 ^ 64 := small_more bm
  unfold aug5 B_law_1
  dsimp only
  refine i_aug L.f2 ?_
  repeat' (first | walk_at "ev" | dsimp only)
  refine aug_call' t0 L.orr L.own rfl (Nat.le_trans hl (by decide)) L.ok fun o1 r1 q1 q2 q3 q4 => ?_
  refine i_aug loc_set_eq ?_
  repeat' (first | walk_at "ev" | refine o_mulI (mulOk_l nb) ?_ | dsimp only)
  refine aug_call' t q3 L.own q1 (add_cap hl).1 q2 fun o2 r2 p1 p2 p3 p4 => ?_
  refine i_aug loc_set_eq ?_
  repeat' (first | walk_at "ev" | refine o_mulI (mulOk_l nb) ?_ | dsimp only)
  refine aug_call' tw p3 L.own p1 (add_cap hl).2.1 p2 fun o3 r3 t1 t2 t3 t4 => ?_
  refine i_aug loc_set_eq ?_
  repeat' (first | walk_at "ev" | refine o_mulI (mulOk_l nb) ?_ | dsimp only)
  refine aug_call' tn t3 L.own t1 (add_cap hl).2.2 t2 fun o4 r4 v1 v2 v3 v4 => ?_
  refine i_nil (hP _ r4 ⟨?_, loc_set_eq, ?_, v3, L.own, v2⟩ v1)
  · refine Eq.trans ?_ L.f1
    simp only [St.set, upd]
    repeat rw [if_neg (by decide)]
  · exact v4 _ _ hne (t4 _ _ hne (p4 _ _ hne (q4 _ _ hne L.oc)))

open PySem PySem.W PySem.Float64



theorem turn05 {σ : St} {c rr : Nat} {cs : List Int} {rows : List AV} {k : Int} {P : Fl → St → Prop} (L : Law5 c rr cs rows σ) (hne : c ≠ rr) (hl : rows.length ≤ 900) (f3 : σ.loc 3 = some (.int k)) (h0 : 0 ≤ k) (hk : k + 3 < cs.length) (hc : cs.length ≤ 200)
    (hP : ∀ σ' rows', Law5 c rr cs rows' σ' → rows'.length = rows.length + 24 → P .next σ') : wpSs gv_law fns_law B_law_1 σ P := by
  have f1 := L.f1
  have f2 := L.f2
  unfold B_law_1
  show wpSs gv_law fns_law (.cons _ (.cons _ (.cons _ (.cons _ aug5)))) σ P
  repeat' (first | walk_at "ev" | dsimp only)
  refine i_comp ?_
  repeat' (first | walk_at "ev" | dsimp only)
  refine ⟨_, _, rfl, rfl, ?_⟩
  refine s_slice rfl L.oc (by simp [sizeLine]; (first | lia | omega)) ?_
  obtain ⟨a, b, d, hp⟩ := pick3 (cs := cs) h0 (by (first | lia | omega))
  rw [pick_map, hp]
  refine t_lst (l := [.int a, .int b, .int d]) rfl (by simp [St.alloc]) ?_
  refine' l_comp m2049 rfl ?hz ?_ ?_
  case hz => exact (show 3 ≤ sizeLine by decide)
  · intro u hu objs K hK
    simp only [List.mem_cons, List.not_mem_nil, or_false] at hu
    rcases hu with rfl | rfl | rfl <;> exact m2049_turn _ _ _ hK
  repeat' (first | walk_at "ev" | dsimp only)
  refine k_sortI (l := [.int (a.fmod 2049), .int (b.fmod 2049), .int (d.fmod 2049)]) (ns := [a.fmod 2049, b.fmod 2049, d.fmod 2049]) rfl get_last rfl (show 3 < 64 by decide) ?_
  intro ns hperm hsort
  have hb : ∀ x ∈ ns, 0 ≤ x ∧ x ≤ 2048 := by
    intro x hx
    have := hperm.mem_iff.mp hx
    simp only [List.mem_cons, List.not_mem_nil, or_false] at this
    rcases this with rfl | rfl | rfl
    · have := mod_rng a (b := 2049) (by decide); (first | lia | omega)
    · have := mod_rng b (b := 2049) (by decide); (first | lia | omega)
    · have := mod_rng d (b := 2049) (by decide); (first | lia | omega)
  have hlen := hperm.length_eq
  match ns, hlen, hb, hsort with
  | [l, m, h], _, hb, hsort =>
  have b1 := hb l (by simp)
  have b3 := hb h (by simp)
  have s1 : l ≤ m ∧ m ≤ h := by
    simp only [List.pairwise_cons, List.mem_cons, List.not_mem_nil, or_false] at hsort
    exact ⟨hsort.1 m (.inl rfl), hsort.2.1 h rfl⟩
  refine ⟨[.int l, .int m, .int h], get_last, rfl, ?_⟩
  simp only [setAll]
  have hcl : (cs.map AV.int)[(k + 3).toNat]? = some (.int (cs.getD (k + 3).toNat 0)) := by
    have hh : (k + 3).toNat < cs.length := by (first | lia | omega)
    simp [List.getElem?_eq_getElem hh, List.getD]
  generalize cs.getD (k + 3).toNat 0 = y at hcl
  repeat' (first | walk_at "ev" | refine s_item rfl (get_app (get_app (get_app L.oc))) (by (first | lia | omega)) (by (first | lia | omega)) hcl ?_ | refine o_powI (by decide) (by decide) (by decide) ?_ | refine o_modI (by decide) ?_ | dsimp only)
  have r1 := mod_rng y (b := 4194304) (by decide)
  have r2 := mod_rng (y.fmod 4194304 + 36) (b := 2048) (by decide)
  have e22 : (2 : Int) ^ Int.toNat 22 = 4194304 := by decide
  rw [e22]
  refine aug05 (l := l) (m := m) (h := h) (rows := rows) (c := c) (cs := cs) (rr := rr) ⟨by walk_at "ev loc", by walk_at "ev loc", get_app (get_app (get_app L.oc)), get_app (get_app (get_app L.orr)), List.mem_cons_of_mem _ (List.mem_cons_of_mem _ (List.mem_cons_of_mem _ L.own)), L.ok⟩ hne hl
    (by walk_at "ev loc") (by walk_at "ev loc") (by walk_at "ev loc") (by walk_at "ev loc") (by walk_at "ev loc") b1.1 s1.1 s1.2 b3.2 (by (first | lia | omega)) (by (first | lia | omega)) hP

noncomputable def pairAt (a : Nat) : AV → Option AV
  | .tup l => match l with
    | x :: r => (match x with | .tup ds => (match r with | y :: _ => (match y with | .tup zs => (ds[a]?).bind fun d => (zs[a]?).map fun z => .tup [d, z] | _ => none) | _ => none) | _ => none)
    | _ => none
  | _ => none
noncomputable def IsP (P : Int → UInt64 → Prop) (v : AV) : Prop := ∃ d z, v = .tup [.int d, .float z] ∧ P d z
theorem pair_turn {ℓ : Nat → Option AV} {a : Int} (ha : a = 0 ∨ a = 1) (h10 : ℓ 10 = some (.int a)) (u : AV) (hu : RowOk u) (objs : List (List AV)) (K : Option AV → List (List AV) → Prop) (h : K (pairAt a.toNat u) objs) :
    compTurnW gv_law ℓ (.tuple (.cons (.sub (.loc 0) (.loc 3)) (.cons (.sub (.loc 1) (.loc 3)) (.nil)))) (some 3) [10] [] .nil u objs K := by
  obtain ⟨d1, d2, z1, z2, z3, rfl, q1, q2⟩ := hu
  refine ⟨rfl, ?_⟩
  show _ ∧ _
  refine ⟨fun _ => ?_, (by intro hc; cases hc)⟩
  have h3 : childLoc ℓ [.tup [.int d1, .int d2], .tup [.float z1, .float z2, .float z3], .bool true] [10] 3 = some (.int a) := h10
  rcases ha with rfl | rfl
  · refine i_tuple (i_es_cons (i_sub (i_loc rfl (i_loc h3 (s_tup (by decide) (by decide) rfl ?_)))))
    refine i_es_cons (i_sub (i_loc rfl (i_loc h3 (s_tup (by decide) (by decide) rfl ?_))))
    exact i_es_nil ⟨show 2 ≤ sizeLine by decide, h⟩
  · refine i_tuple (i_es_cons (i_sub (i_loc rfl (i_loc h3 (s_tup (by decide) (by decide) rfl ?_)))))
    refine i_es_cons (i_sub (i_loc rfl (i_loc h3 (s_tup (by decide) (by decide) rfl ?_))))
    exact i_es_nil ⟨show 2 ≤ sizeLine by decide, h⟩
noncomputable def keyP (a : Int) : Int → UInt64 → Prop := if a = 0 then HueOk else SatOk
theorem key_told (a : Int) : Told (keyP a) := by
  unfold keyP
  split
  · exact hue_told
  · exact sat_told
theorem pair_of {a : Int} (ha : a = 0 ∨ a = 1) {u : AV} (hu : RowOk u) : ∃ v, pairAt a.toNat u = some v ∧ IsP (keyP a) v := by
  obtain ⟨d1, d2, z1, z2, z3, rfl, q1, q2⟩ := hu
  rcases ha with rfl | rfl
  · exact ⟨_, rfl, _, _, rfl, q1⟩
  · exact ⟨_, rfl, _, _, rfl, q2⟩
theorem pairs_of {a : Int} (ha : a = 0 ∨ a = 1) : ∀ {rows : List AV}, (∀ v ∈ rows, RowOk v) → (rows.filterMap (pairAt a.toNat)).length = rows.length ∧ ∀ v ∈ rows.filterMap (pairAt a.toNat), IsP (keyP a) v
  | [], _ => ⟨rfl, fun _ h => nomatch h⟩
  | u :: rows, H => by
    obtain ⟨h1, h2⟩ := pairs_of ha (rows := rows) fun v hv => H v (.tail _ hv)
    obtain ⟨v, e, hv⟩ := pair_of ha (H u (.head _))
    rw [List.filterMap_cons_some e]
    exact ⟨by rw [List.length_cons, List.length_cons, h1], fun w hw => (List.mem_cons.mp hw).elim (fun e => e ▸ hv) (h2 w)⟩
theorem isPair_of {P : Int → UInt64 → Prop} {v : AV} (h : IsP P v) : isPair v = true := by
  obtain ⟨d, z, rfl, -⟩ := h
  rfl
noncomputable def lt5 : PSs := match B_law_2 with | .cons _ t => t | x => x
structure Line (k : Int) (ln : Nat) (line : List AV) (d d' : Int) (z z' : UInt64) (σ : St) : Prop where
  f3 : σ.loc 3 = some (.int k)
  f11 : σ.loc 11 = some (.lst ln)
  o : σ.objs[ln]? = some line
  a : line[(k - 1).toNat]? = some (.tup [.int d, .float z])
  b : line[k.toNat]? = some (.tup [.int d', .float z'])
  h1 : 1 ≤ k
  h2 : k < 2 ^ 40
theorem line05b {σ : St} {P : Fl → St → Prop} {ln : Nat} {line : List AV} {k d d' : Int} {z z' : UInt64} (L : Line k ln line d d' z z' σ) (t2 : d < d' → fcmp .GtE (Float64.cmp z z') = false) (hP : P .next σ) : wpSs gv_law fns_law lt5 σ P := by
  obtain ⟨f3, f11, o, ha, hb, h1, h2⟩ := L
  unfold lt5 B_law_2
  dsimp only
  repeat' (first | walk_at "ev" | refine s_item rfl o (by (first | lia | omega)) (by (first | lia | omega)) ha ?_ | refine s_item rfl o (by (first | lia | omega)) (by (first | lia | omega)) hb ?_ | refine s_tup (by decide) (by decide) rfl ?_ | dsimp only)
  · intro hc
    have e := t2 (by simpa [icmp] using hc)
    repeat' (first | rw [e] | walk_at "ev" | refine s_item rfl o (by (first | lia | omega)) (by (first | lia | omega)) ha ?_ | refine s_item rfl o (by (first | lia | omega)) (by (first | lia | omega)) hb ?_ | refine s_tup (by decide) (by decide) rfl ?_ | dsimp only)
    refine ⟨(by intro hf; cases hf), fun _ => ?_⟩
    exact hP
  · intro hc
    rw [hc]
    refine ⟨(by intro hf; cases hf), fun _ => ?_⟩
    exact hP
theorem line05 {σ : St} {P : Fl → St → Prop} {ln : Nat} {line : List AV} {k d d' : Int} {z z' : UInt64} (L : Line k ln line d d' z z' σ) (t1 : d = d' → fcmp .NotEq (Float64.cmp z z') = false) (t2 : d < d' → fcmp .GtE (Float64.cmp z z') = false) (hP : P .next σ) : wpSs gv_law fns_law B_law_2 σ P := by
  have L0 := L
  obtain ⟨f3, f11, o, ha, hb, h1, h2⟩ := L
  unfold B_law_2
  show wpSs gv_law fns_law (.cons _ lt5) σ P
  repeat' (first | walk_at "ev" | refine s_item rfl o (by omega) (by omega) ha ?_ | refine s_item rfl o (by omega) (by omega) hb ?_ | refine s_tup (by decide) (by decide) rfl ?_ | dsimp only)
  · intro hc
    have e := t1 (by simpa [icmp] using hc)
    repeat' (first | rw [e] | walk_at "ev" | refine s_item rfl o (by omega) (by omega) ha ?_ | refine s_item rfl o (by omega) (by omega) hb ?_ | refine s_tup (by decide) (by decide) rfl ?_ | dsimp only)
    refine ⟨(by intro hf; cases hf), fun _ => ?_⟩
    exact line05b L0 t2 hP
  · intro hc
    rw [hc]
    refine ⟨(by intro hf; cases hf), fun _ => ?_⟩
    exact line05b L0 t2 hP

open PySem PySem.W PySem.Float64



structure Rows5 (rr : Nat) (rows : List AV) (σ : St) : Prop where
  f2 : σ.loc 2 = some (.lst rr)
  o : σ.objs[rr]? = some rows
theorem line_all {σ : St} {rr : Nat} {rows : List AV} {a : Int} {P : Fl → St → Prop} (L : Rows5 rr rows σ) (f10 : σ.loc 10 = some (.int a)) (ha : a = 0 ∨ a = 1) (hok : ∀ v ∈ rows, RowOk v) (h2 : 2 ≤ rows.length) (hl : rows.length ≤ 1000)
    (hP : ∀ σ', Rows5 rr rows σ' → P .next σ') : wpSs gv_law fns_law B_law_3 σ P := by
  have f2 := L.f2
  unfold B_law_3
  repeat' (first | walk_at "ev" | dsimp only)
  refine i_comp ?_
  repeat' (first | walk_at "ev" | dsimp only)
  refine t_lst rfl L.o ?_
  obtain ⟨q1, q2⟩ := pairs_of ha hok
  refine' l_comp (pairAt a.toNat) rfl ?hz ?_ ?_
  case hz => simp only [sizeLine]; (first | lia | omega)
  · intro u hu objs K hK
    exact pair_turn ha f10 u (hok u hu) objs K hK
  generalize rows.filterMap (pairAt a.toNat) = ps at *
  repeat' (first | walk_at "ev" | dsimp only)
  refine k_sortP rfl get_last (List.all_eq_true.mpr fun v hv => isPair_of (q2 v hv)) (by (first | lia | omega)) (by simp only [sizeLine]; (first | lia | omega)) fun line w1 w2 => ?_
  have ho : ((σ.alloc ps).alloc line).objs[rr]? = some rows := get_app (get_app L.o)
  have hg : ((σ.alloc ps).alloc line).objs[(σ.alloc ps).objs.length]? = some line := get_last
  generalize hln : (σ.alloc ps).objs.length = ln at *
  refine i_for ?_
  repeat' (first | walk_at "ev" | dsimp only)
  refine k_len rfl hg (by (first | lia | omega)) ?_
  repeat' (first | walk_at "ev" | dsimp only)
  refine t_rng (rng_small (by decide) (by (first | lia | omega)) (by (first | lia | omega)) (by decide) (by decide)) (by decide) ?_
  refine ⟨fun _ σ' => (Rows5 rr rows σ' ∧ σ'.loc 11 = some (.lst ln)) ∧ σ'.objs[ln]? = some line, ⟨⟨⟨by walk_at "ev loc", ho⟩, loc_set_eq⟩, hg⟩, ?_, ?_⟩
  · rintro i u σ' hu ⟨⟨g1, g2⟩, g3⟩
    obtain ⟨hi, rfl⟩ := rng_get hu
    have hlt := rng_lt (by decide) hi
    refine b_name ?_
    have hln : line.length = rows.length := w1.trans q1
    obtain ⟨x, hx⟩ : ∃ x, line[(1 + (i : Int) * 1 - 1).toNat]? = some x := ⟨_, List.getElem?_eq_getElem (by (first | lia | omega))⟩
    obtain ⟨y, hy⟩ : ∃ y, line[(1 + (i : Int) * 1).toNat]? = some y := ⟨_, List.getElem?_eq_getElem (by (first | lia | omega))⟩
    obtain ⟨d, z, rfl, pa⟩ := q2 x (w2 _ (List.mem_of_getElem? hx))
    obtain ⟨d', z', rfl, pb⟩ := q2 y (w2 _ (List.mem_of_getElem? hy))
    obtain ⟨t1, t2⟩ := key_told a d z d' z' pa pb
    have g2' := g1.f2
    exact line05 ⟨loc_set_eq, by walk_at "ev loc", g3, hx, hy, by (first | lia | omega), by (first | lia | omega)⟩ t1 t2 ⟨⟨⟨by walk_at "ev loc", g1.o⟩, by walk_at "ev loc"⟩, g3⟩
  · rintro σ' ⟨⟨g1, -⟩, -⟩
    exact i_nil (hP _ g1)
noncomputable def noneR : AV → Option AV := fun _ => none
theorem right_turn {ℓ : Nat → Option AV} (u : AV) (hu : RowOk u) (objs : List (List AV)) (K : Option AV → List (List AV) → Prop) (h : K none objs) : compTurnW gv_law ℓ (.loc 0) (some 3) [] [] (.cons (.not (.loc 2)) (.nil)) u objs K := by
  obtain ⟨d1, d2, z1, z2, z3, rfl, q1, q2⟩ := hu
  refine ⟨rfl, ?_⟩
  show wpE _ _ _ _ _
  repeat' (first | walk_at "ev" | dsimp only)
  refine ⟨(by intro hc; cases hc), fun _ => ?_⟩
  exact ⟨(by intro hc; cases hc), fun _ => h⟩
theorem plain05 (ns : List Int) (hn : ns.length ≤ 63) : wpSs gv_law fns_law B_law ⟨fun i => if i = 0 then some (.lst 0) else none, [ns.map .int], []⟩ fun fl _ => fl = .ret (.bool true) := by
  unfold B_law
  repeat' (first | walk_at "ev" | dsimp only)
  refine ⟨32, rfl, s_slice rfl rfl (by simp [sizeLine]; (first | lia | omega)) ?_⟩
  rw [pick_map]
  generalize hms : pick ns none (some 32) = ms
  have hml : ms.length ≤ 63 := by have := pick_len ns none (some 32); rw [hms] at this; (first | lia | omega)
  repeat' (first | walk_at "ev" | dsimp only)
  refine l_new rfl (show 4 ≤ sizeLine by decide) ?_
  repeat' (first | walk_at "ev" | dsimp only)
  refine o_addL (by walk_at "ev objs") rfl rfl (by simp [sizeLine]; (first | lia | omega)) ?_
  repeat' (first | walk_at "ev" | dsimp only)
  refine l_new (by walk_at "ev objs") (show 3 ≤ sizeLine by decide) ?_
  refine o_addL (by walk_at "ev objs") rfl rfl (by simp [sizeLine]; (first | lia | omega)) ?_
  obtain ⟨cs, hcs, hc1, hc2⟩ : ∃ cs : List Int, (([AV.int 700, .int 1100, .int 1900, .int 0] ++ ms.map .int) ++ [AV.int 0, .int 0, .int 0] : List AV) = cs.map .int ∧ 7 ≤ cs.length ∧ cs.length ≤ 100 :=
    ⟨[700, 1100, 1900, 0] ++ ms ++ [0, 0, 0], by simp, by simp, by simp; (first | lia | omega)⟩
  rw [hcs]
  repeat' (first | walk_at "ev" | dsimp only)
  refine l_new (by walk_at "ev objs") (show 0 ≤ sizeLine by decide) ?_
  refine i_for ?_
  repeat' (first | walk_at "ev" | dsimp only)
  refine k_len (by walk_at "ev objs") rfl (by simp; (first | lia | omega)) ?_
  repeat' (first | walk_at "ev" | dsimp only)
  refine k_range3 (by decide) (by decide) ?_
  rw [List.length_map]
  refine t_rng (rng_small (by decide) (by (first | lia | omega)) (by (first | lia | omega)) (by decide) (by decide)) (by decide) ?_
  have hcap : (Builtin.Range.rangeSize 0 ((cs.length : Int) - 3) 4).toNat ≤ 30 := by
    unfold Builtin.Range.rangeSize
    rw [if_pos (by decide)]
    split <;> (first | lia | omega)
  refine ⟨fun i σ' => ∃ rows, Law5 5 6 cs rows σ' ∧ rows.length = 24 * i, ⟨[], ⟨by walk_at "ev loc", by walk_at "ev loc", rfl, rfl, .head _, fun _ h => nomatch h⟩, rfl⟩, ?_, ?_⟩
  · rintro i u σ' hu ⟨rows, L, hl⟩
    obtain ⟨hi, rfl⟩ := rng_get hu
    have hlt := rng_lt (by decide) hi
    have f1 := L.f1
    have f2 := L.f2
    refine b_name ?_
    refine turn05 (k := 0 + (i : Int) * 4) (c := 5) (rr := 6) (cs := cs) (rows := rows) ⟨by walk_at "ev loc", by walk_at "ev loc", L.oc, L.orr, L.own, L.ok⟩ (by decide) (by (first | lia | omega)) loc_set_eq (by (first | lia | omega)) (by (first | lia | omega)) (by (first | lia | omega)) fun σ2 rows2 L2 h2 => ?_
    exact ⟨rows2, L2, by (first | lia | omega)⟩
  · rintro σ' ⟨rows, L, hl⟩
    rw [rng_len] at hl
    have hpos := rng_pos (a := 0) (b := (cs.length : Int) - 3) (c := 4) (by decide) (by (first | lia | omega))
    have f2 := L.f2
    repeat' (first | walk_at "ev" | dsimp only)
    refine i_comp ?_
    repeat' (first | walk_at "ev" | dsimp only)
    refine t_lst rfl L.orr ?_
    refine' l_comp noneR rfl ?hz ?_ ?_
    case hz => simp only [sizeLine]; (first | lia | omega)
    · intro u hu objs K hK
      exact right_turn u (L.ok u hu) objs K hK
    have hnil : rows.filterMap noneR = [] := by rw [List.filterMap_eq_nil_iff]; intro _ _; rfl
    rw [hnil]
    repeat' (first | walk_at "ev" | dsimp only)
    refine l_new rfl (show 0 ≤ sizeLine by decide) ?_
    refine c_neL (l := []) (k := []) (ns := []) (ms := []) rfl (get_app get_last) get_last rfl rfl ?_
    refine i_truth ⟨(by intro hh; simp at hh), fun _ => ?_⟩
    refine i_nil ?_
    refine i_for ?_
    repeat' (first | walk_at "ev" | dsimp only)
    refine t_rng (by decide) (by decide) ?_
    refine ⟨fun _ σ2 => Rows5 6 rows σ2, ⟨f2, get_app (get_app L.orr)⟩, ?_, ?_⟩
    · rintro i u σ2 hu L2
      obtain ⟨hi, rfl⟩ := rng_get hu
      have hlt := rng_lt (by decide) hi
      have g2 := L2.f2
      refine b_name ?_
      refine line_all (a := 0 + (i : Int) * 1) (rr := 6) (rows := rows) ⟨by walk_at "ev loc", L2.o⟩ loc_set_eq (by (first | lia | omega)) L.ok (by (first | lia | omega)) (by (first | lia | omega)) fun σ3 L3 => L3
    · intro σ2 _
      exact i_ret (i_const rfl)

end Mine

theorem PySem.Challenge.cw_dm0026_05_holds : PySem.Challenge.rw_dm0026_05.Holds := by
  refine Mine.hd05 ?_
  k_go0
  rename Top _ _ _ _ _ _ => T
  rename Fr _ _ _ _ => F
  rename News _ _ _ _ => N
  rename LooseAre _ _ _ => V
  rename IntsAre _ _ => hI
  rename Heap.IsList _ _ _ => hL
  rename _ = #[] => hg
  rename ¬ _ < _ => hlen
  rename Frag.In _ _ => KX
  refine Mine.law_start63 T (Mine.nb_of (KX cStatics _ (by kernel_rfl))) F N hL hI rfl (by decide) ?cells (K := Mine.K_law) (ps := Mine.dropS Mine.B_law) (gval := Mine.gv_law) (fns := Mine.fns_law) (fa := Mine.faOf _ _ ["rgb_to_hsv", "_law_rows"]) (by decide +kernel) rfl rfl rfl rfl rfl rfl (fun C h1 h2 h3 h4 h5 Fo => have t := Mine.top_all h5 (by decide +kernel); Mine.ok_law (Mine.facts T V) 6 C h1 h2 h3 h4 Fo t.1 t.2.1 t.2.2) (Mine.plain05 _ (by omega)) ?_
  case cells =>
    intro x hx
    rcases List.mem_cons.mp hx with rfl | hx
    · first | exact ⟨_, _, rfl, .head _, _, by assumption⟩ | exact ⟨_, _, rfl, .tail _ (.head _), _, by assumption⟩ | exact ⟨_, _, rfl, .tail _ (.tail _ (.head _)), _, by assumption⟩
    · cases hx
  intro h' tk m' F'
  exact goodW_bool F' hg (fun _ => rfl) (by kernel_rfl) rfl
