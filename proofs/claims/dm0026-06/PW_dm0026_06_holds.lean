import PyProof.Rows.All
import Wide.All
import OpenK.AllK
import Wide.FinOn
import PySem.Challenge.RW_dm0026_06
open PySem PySem.W PyProof.Rows
set_option Elab.async false
set_option maxRecDepth 100000
set_option maxHeartbeats 8000000
set_option linter.unusedVariables false
set_option autoImplicit false
set_option genSizeOf false
set_option genSizeOfSpec false
set_option genInjectivity false
set_option compiler.extract_closed false
namespace Mine
open PySem PySem.W PySem.Calls PyProof.Rows


noncomputable def K0 : Params → Frag := fun _ => [(cStatics, { cls := .none, data := .dict #[] })]
noncomputable def H0 : Hook := kHook K0 [cStatics] (fun _ => rfl)
noncomputable def V06 : Program := { PySem.Challenge.pw_dm0026_06 with main := { PySem.Challenge.pw_dm0026_06.main with body := (PySem.Challenge.pw_dm0026_06.main.body.drop 1).take 1 ++ PySem.Challenge.pw_dm0026_06.main.body.drop 3 } }
theorem left06 : LeftO PySem.Challenge.pw_dm0026_06 V06 [] (fun s => xlAt V06 [] s && recOk (RowW.records PySem.Challenge.rw_dm0026_06.row.toRowW) s) (Hook.obs H0) (Hook.val H0) 880 := by
  intro w
  kernel_rfl
theorem looks06 : looksOpen PySem.Challenge.pw_dm0026_06 = true := by
  unfold looksOpen
  refine look_both (look_both (look_both (look_both (look_both ?_ ?_) ?_) ?_) ?_) ?_ <;> decide +kernel
theorem row06 : PySem.Challenge.rw_dm0026_06.row.wellSaid = true := by
  unfold OpenRow.wellSaid OpenRow.partSaid
  refine look_both (look_both (look_both (look_both (look_both (look_both (look_both (look_both (look_both (look_both (look_both (look_both (look_both (look_both (look_both looks06 ?_) ?_) ?_) ?_) ?_) ?_) ?_) ?_) ?_) ?_) ?_) ?_) ?_) ?_) ?_ <;> decide +kernel
theorem said06 : PySem.Challenge.rw_dm0026_06.wellSaid = true := by
  unfold OpenLaw.wellSaid
  refine look_both (look_both (look_both (look_both (look_both (look_both (look_both (look_both (look_both (look_both (look_both (look_both (look_both (look_both (look_both (look_both (look_both (look_both row06 ?_) ?_) ?_) ?_) ?_) ?_) ?_) ?_) ?_) ?_) ?_) ?_) ?_) ?_) ?_) ?_) ?_) ?_ <;> decide +kernel
theorem hd06 {d : DefRec} {kwd : List (Str × Expr)} (hdef : defOf V06 (Str.ofString "law") = some (d, kwd)) (hp : PySem.Challenge.pw_dm0026_06.theDef (Str.ofString "law") = some (d.params, d.body, d.scope)) (hk : kwWritten? d.params.kwonlyargs d.params.kw_defaults = some kwd)
    (call : WalkO V06 [] (XL V06 []) (Hook.says H0) PySem.Challenge.rw_dm0026_06.row.toRowW d kwd fun f vs => PySem.call f vs) : PySem.Challenge.rw_dm0026_06.Holds := by
  refine holds_law (l := PySem.Challenge.rw_dm0026_06) said06 fun said => ?_
  exact holds_open (q := V06) (loose := []) (Xt := fun s => xlAt V06 [] s && recOk (RowW.records PySem.Challenge.rw_dm0026_06.row.toRowW) s) (XP := XL V06 []) (Yf := Hook.obs H0) (Ya := Hook.val H0) (YP := Hook.says H0) (N := 880) left06 (Hook.of H0) (Hook.keeps H0)
    (fun s e => xl_of s (Bool.and_eq_true_iff.mp e).1) XL.keeps hdef hp hk (fun s e => recFacts_of (Bool.and_eq_true_iff.mp e).2) rfl said (by decide +kernel) ⟨rfl, rfl, rfl, rfl, rfl, by decide +kernel⟩ (by w_witness2) call
end Mine
namespace Mine.R
open PySem PySem.W PySem.Calls PyProof.Rows

noncomputable def gallopP : Bool → Keyed → Array Keyed → Nat → Nat → Nat → StateT SortSt Sem (Option Nat) := sortPriv% PySem.Builtin.gallop
noncomputable def mergeLoP : Array Keyed → Array Keyed → StateT SortSt Sem (Array Keyed) := sortPriv% PySem.Builtin.mergeLo
noncomputable def mergeHiP : Array Keyed → Array Keyed → StateT SortSt Sem (Array Keyed) := sortPriv% PySem.Builtin.mergeHi

structure SOk (κ : SortKind) (a₀ : Array Keyed) (st : SortSt) : Prop where
  kind : kindOf st = κ
  failed : failedOf st = none
  perm : (arrOf st).Perm a₀
noncomputable def Asks (prog : Program) (w : World) (A : Around) (s : Shared) (κ : SortKind) (r : Value → Int) (a₀ : Array Keyed) : Prop :=
  ∀ x ∈ a₀, ∀ y ∈ a₀, ∀ (E : Value → Shared → Prop) (Q : Bool → Shared → Prop), Q (decide (r x.1 < r y.1)) s → wpAny (model prog w) A (keyLt' κ x.1 y.1) Q E s
noncomputable def AllIn (a₀ xs : Array Keyed) : Prop := ∀ x ∈ xs, x ∈ a₀
noncomputable def rkAt (r : Value → Int) (arr : Array Keyed) (i : Nat) : Int := match arr[i]? with
  | some x => r x.1
  | none => 0
theorem rkAt_eq {r : Value → Int} {arr : Array Keyed} {i : Nat} {x : Keyed} (h : arr[i]? = some x) : rkAt r arr i = r x.1 := by unfold rkAt; rw [h]
noncomputable def Mono (f : Nat → Int) (n : Nat) : Prop := ∀ i j, i ≤ j → j < n → f i ≤ f j
noncomputable def Bef (left : Bool) (x k : Int) : Prop := if left = true then x < k else x ≤ k
theorem Bef.mono {left : Bool} {x y k : Int} (h : Bef left y k) (hxy : x ≤ y) : Bef left x k := by
  unfold Bef at h ⊢
  split at h
  · rw [if_pos ‹_›]; exact Int.lt_of_le_of_lt hxy h
  · rw [if_neg ‹_›]; exact Int.le_trans hxy h

section
variable {prog : Program} {w : World} {A : Around} {E : Value → Shared → Prop} {s : Shared} {κ : SortKind} {r : Value → Int} {a₀ : Array Keyed} {st : SortSt}
theorem s_lt {x y : Keyed} {Q : Option Bool → SortSt → Prop} (H : Asks prog w A s κ r a₀) (B : SOk κ a₀ st) (hx : x ∈ a₀) (hy : y ∈ a₀) (h : Q (some (decide (r x.1 < r y.1))) st) : wpS (model prog w) A E s (lt' x y) Q st := by
  rw [lt'_eq]
  refine wpS_bind (wpS_get ?_)
  rw [B.kind]
  refine wpS_bind (wpS_lift (wpAny_attempt (H x hx y hy _ _ ⟨rfl, ?_⟩)))
  exact wpS_pure h
theorem s_elem {arr : Array Keyed} {i : Nat} {Q : Keyed → SortSt → Prop} (ha : AllIn a₀ arr) (hi : i < arr.size) (h : ∀ x ∈ a₀, arr[i]? = some x → Q x st) : wpS (model prog w) A E s (elem' arr i) Q st := by
  rw [elem'_eq, getElem?_pos arr i hi]
  exact wpS_pure (h _ (ha _ (Array.getElem_mem hi)) (getElem?_pos arr i hi))
theorem s_if {c : Prop} [Decidable c] {α : Type} {m₁ m₂ : StateT SortSt Sem α} {Q : α → SortSt → Prop} (h1 : c → wpS (model prog w) A E s m₁ Q st) (h2 : ¬ c → wpS (model prog w) A E s m₂ Q st) : wpS (model prog w) A E s (if c then m₁ else m₂) Q st := by
  split
  · exact h1 ‹_›
  · exact h2 ‹_›
theorem s_ask {left : Bool} {key : Keyed} {arr : Array Keyed} {i : Nat} {Q : Option Bool → SortSt → Prop} (H : Asks prog w A s κ r a₀) (B : SOk κ a₀ st) (hk : key ∈ a₀) (ha : AllIn a₀ arr) (hi : i < arr.size)
    (h : ∀ c, (c = true ↔ Bef left (rkAt r arr i) (r key.1)) → Q (some c) st) :
    wpS (model prog w) A E s (elem' arr i >>= fun x => if left = true then lt' x key else lt' key x >>= fun r => pure (Option.map (fun b => !b) r)) Q st := by
  refine wpS_bind (s_elem ha hi fun x hx e => s_if (fun hl => s_lt H B hx hk (h _ ?_)) fun hl => wpS_bind (s_lt H B hk hx (wpS_pure (h (!decide (r key.1 < r x.1)) ?_))))
  · rw [rkAt_eq e]; unfold Bef; rw [if_pos hl]; exact decide_eq_true_iff
  · rw [rkAt_eq e]; unfold Bef; rw [if_neg hl, Bool.not_eq_true', decide_eq_false_iff_not, Int.not_lt]
structure Gal (left : Bool) (f : Nat → Int) (k : Int) (n lo hi : Nat) : Prop where
  a : ∀ j, j < lo → Bef left (f j) k
  z : ∀ j, hi ≤ j → j < n → ¬ Bef left (f j) k
  le : hi ≤ n
theorem Gal.close {left : Bool} {f : Nat → Int} {k : Int} {n lo hi : Nat} (G : Gal left f k n lo hi) (h : hi ≤ lo) : Gal left f k n hi hi := ⟨fun j hj => G.a j (Nat.lt_of_lt_of_le hj h), G.z, G.le⟩
theorem low_of {left : Bool} {f : Nat → Int} {k : Int} {n i : Nat} (M : Mono f n) (hi : i < n) (h : Bef left (f i) k) : ∀ j, j < i + 1 → Bef left (f j) k := fun j hj => h.mono (M j i (Nat.le_of_lt_succ hj) hi)
theorem high_of {left : Bool} {f : Nat → Int} {k : Int} {n i : Nat} (M : Mono f n) (h : ¬ Bef left (f i) k) : ∀ j, i ≤ j → j < n → ¬ Bef left (f j) k := fun j hj hn hb => h (hb.mono (M i j hj hn))
theorem gal_up {left : Bool} {f : Nat → Int} {k : Int} {n hint l o : Nat} (M : Mono f n) (hl : l < n - hint) (hb : Bef left (f (hint + l)) k) (ho : n - hint ≤ o ∨ ¬ Bef left (f (hint + o)) k) : Gal left f k n (hint + l + 1) (hint + min o (n - hint)) := by
  refine ⟨low_of M (by (first | lia | omega)) hb, fun j h1 h2 => ?_, by (first | lia | omega)⟩
  rcases ho with ho | ho
  · rw [Nat.min_eq_right ho] at h1; (first | lia | omega)
  · exact high_of M ho j (by (first | lia | omega)) h2
theorem gal_dn {left : Bool} {f : Nat → Int} {k : Int} {n hint l o : Nat} (M : Mono f n) (hn : hint < n) (hb : ¬ Bef left (f (hint - l)) k) (ho : hint + 1 ≤ o ∨ Bef left (f (hint - o)) k) : Gal left f k n (hint + 1 - min o (hint + 1)) (hint - l) := by
  refine ⟨fun j hj => ?_, high_of M hb, by omega⟩
  rcases ho with ho | ho
  · rw [Nat.min_eq_right ho] at hj; omega
  · exact low_of M (by omega) ho j (by omega)
theorem gal_lo {left : Bool} {f : Nat → Int} {k : Int} {n lo hi m : Nat} (M : Mono f n) (G : Gal left f k n lo hi) (hm : m < hi) (hb : Bef left (f m) k) : Gal left f k n (m + 1) hi := ⟨low_of M (Nat.lt_of_lt_of_le hm G.le) hb, G.z, G.le⟩
theorem gal_hi {left : Bool} {f : Nat → Int} {k : Int} {n lo hi m : Nat} (M : Mono f n) (G : Gal left f k n lo hi) (hm : m < hi) (hb : ¬ Bef left (f m) k) : Gal left f k n lo m := ⟨G.a, high_of M hb, Nat.le_of_lt (Nat.lt_of_lt_of_le hm G.le)⟩
theorem mid_lt {l o x n : Nat} (h : ¬ l ≥ o) (hd : o - l ≤ n - x) (hx : x < n) : l + (o - l) / 2 < o ∧ o - (l + (o - l) / 2 + 1) ≤ n - (x + 1) ∧ l + (o - l) / 2 - l ≤ n - (x + 1) := by
  have hl : l < o := Nat.lt_of_not_le h
  have h1 : (o - l) / 2 < o - l := Nat.div_lt_self (Nat.sub_pos_of_lt hl) (by decide)
  have h2 : o - l - 1 ≤ n - (x + 1) := Nat.sub_le_sub_right hd 1
  generalize (o - l) / 2 = e at *
  refine ⟨Nat.add_lt_of_lt_sub' h1, ?_, ?_⟩
  · rw [Nat.add_assoc, ← Nat.sub_sub]
    exact Nat.le_trans (Nat.sub_le_sub_left (Nat.le_add_left 1 e) (o - l)) h2
  · rw [Nat.add_sub_cancel_left]
    exact Nat.le_trans (Nat.le_sub_one_of_lt h1) h2
theorem not_true {c : Bool} {P : Prop} (h : c = true ↔ P) (hc : ¬ c = true) : ¬ P := fun p => hc (h.mpr p)
theorem bang_false {c : Bool} {P : Prop} (h : c = true ↔ P) (hc : ¬ (!c) = true) : P := h.mp (by cases c <;> simp_all)
theorem bang_true {c : Bool} {P : Prop} (h : c = true ↔ P) (hc : (!c) = true) : ¬ P := fun p => by rw [h.mpr p] at hc; cases hc
noncomputable def Out2 {O X Y : Type} (J K : X → Y → Prop) : ForInStep (Option O × X × Y) → Prop
  | .done (none, x, y) => K x y
  | .yield (none, x, y) => J x y
  | _ => False
theorem s_loop2 {O X Y α : Type} {n : Nat} {f : Nat → Option O × X × Y → StateT SortSt Sem (ForInStep (Option O × X × Y))} {F : Option O × X × Y → StateT SortSt Sem α} {Q : α → SortSt → Prop} {x : X} {y : Y} (J : Nat → X → Y → Prop) (K : X → Y → Prop)
    (step : ∀ i x y, i < n → J i x y → wpS (model prog w) A E s (f i (none, x, y)) (fun r st' => st' = st ∧ Out2 (J (i + 1)) K r) st) (fin : ∀ x y, J (max 0 n) x y → K x y) (post : ∀ x y, K x y → wpS (model prog w) A E s (F (none, x, y)) Q st)
    (h : J 0 x y) : wpS (model prog w) A E s (forIn [0:n] (none, x, y) f >>= F) Q st := by
  refine wpS_bind (wpS_mono (wpS_forRange (I := fun i c st' => st' = st ∧ Out2 (J i) K (.yield c)) (Q := fun c st' => st' = st ∧ Out2 (J 0) K (.done c)) ?_ ?_ ⟨rfl, h⟩) ?_)
  · rintro i ⟨_ | o, x, y⟩ st' _ hi ⟨rfl, j⟩
    · refine wpS_mono (step i x y hi j) ?_
      rintro (⟨_ | o, c⟩ | ⟨_ | o, c⟩) st2 q
      · exact q
      · exact q.2.elim
      · exact q
      · exact q.2.elim
    · exact j.elim
  · rintro ⟨_ | o, x, y⟩ st' ⟨rfl, j⟩
    · exact ⟨rfl, fin x y j⟩
    · exact j.elim
  · rintro ⟨_ | o, x, y⟩ st' ⟨rfl, q⟩
    · exact post x y q
    · exact q.elim
theorem dbl_lt {i o : Nat} (h : i < o) : i + 1 < 2 * o + 1 := by omega
theorem far_off {m o n : Nat} (h : max 0 n < o) (hm : m ≤ n) : m ≤ o := Nat.le_trans hm (Nat.le_of_lt (Nat.lt_of_le_of_lt (Nat.le_max_right 0 n) h))
theorem met_of {o l n : Nat} (h : o - l ≤ n - max 0 n) : o ≤ l := Nat.le_of_sub_eq_zero (Nat.le_zero.mp (Nat.le_trans h (Nat.le_of_eq (Nat.sub_eq_zero_of_le (Nat.le_max_right 0 n)))))
theorem gallop_ok {left : Bool} {key : Keyed} {arr : Array Keyed} {base n hint : Nat} {Q : Option Nat → SortSt → Prop} (H : Asks prog w A s κ r a₀) (B : SOk κ a₀ st) (hk : key ∈ a₀) (ha : AllIn a₀ arr)
    (hb : base + n ≤ arr.size) (hh : hint < n) (M : Mono (fun j => rkAt r arr (base + j)) n) (h : ∀ k, Gal left (fun j => rkAt r arr (base + j)) (r key.1) n k k → Q (some k) st) : wpS (model prog w) A E s (gallopP left key arr base n hint) Q st := by
  have at_ : ∀ {i}, i < n → base + i < arr.size := fun hi => Nat.lt_of_lt_of_le (Nat.add_lt_add_left hi base) hb
  have at0 := at_ hh
  refine wpS_bind (s_ask H B hk ha at0 fun c hc => ?_)
  dsimp only
  refine s_if (fun ht => ?_) (fun hf => ?_)
  · refine s_loop2 (fun i l o => i < o ∧ l < n - hint ∧ Bef left (rkAt r arr (base + (hint + l))) (r key.1)) (fun l o => l < n - hint ∧ Bef left (rkAt r arr (base + (hint + l))) (r key.1) ∧ (n - hint ≤ o ∨ ¬ Bef left (rkAt r arr (base + (hint + o))) (r key.1))) ?_ (fun l o q => ⟨q.2.1, q.2.2, .inl (far_off q.1 (Nat.sub_le _ _))⟩) ?_ ⟨Nat.one_pos, Nat.sub_pos_of_lt hh, hc.mp ht⟩
    · intro i l o _ q
      refine s_if (fun ho => wpS_pure ⟨rfl, q.2.1, q.2.2, .inl ho⟩) (fun ho => ?_)
      have ho' : o < n - hint := Nat.lt_of_not_le ho
      exact wpS_bind (s_ask H B hk ha (at_ (Nat.add_lt_of_lt_sub' ho')) fun c hc => s_if (fun hn => wpS_pure ⟨rfl, q.2.1, q.2.2, .inr (bang_true hc hn)⟩) (fun hn => wpS_pure ⟨rfl, dbl_lt q.1, ho', bang_false hc hn⟩))
    · intro l o q
      dsimp only
      have G := gal_up M q.1 q.2.1 q.2.2
      refine s_loop2 (fun x l o => Gal left (fun j => rkAt r arr (base + j)) (r key.1) n l o ∧ o - l ≤ n - x) (fun l o => Gal left (fun j => rkAt r arr (base + j)) (r key.1) n l o ∧ o ≤ l) ?_ (fun l o q => ⟨q.1, met_of q.2⟩) (fun l o q => wpS_pure (h _ (q.1.close q.2))) ⟨G, Nat.le_trans (Nat.sub_le _ _) G.le⟩
      intro x l o hx q
      refine s_if (fun hlo => wpS_pure ⟨rfl, q.1, hlo⟩) (fun hlo => ?_)
      have m := mid_lt hlo q.2 hx
      exact wpS_bind (s_ask H B hk ha (at_ (Nat.lt_of_lt_of_le m.1 q.1.le)) fun c hc => s_if (fun hn => wpS_pure ⟨rfl, gal_lo M q.1 m.1 (hc.mp hn), m.2.1⟩) (fun hn => wpS_pure ⟨rfl, gal_hi M q.1 m.1 (not_true hc hn), m.2.2⟩))
  · refine s_loop2 (fun i l o => i < o ∧ ¬ Bef left (rkAt r arr (base + (hint - l))) (r key.1)) (fun l o => ¬ Bef left (rkAt r arr (base + (hint - l))) (r key.1) ∧ (hint + 1 ≤ o ∨ Bef left (rkAt r arr (base + (hint - o))) (r key.1))) ?_ (fun l o q => ⟨q.2, .inl (far_off q.1 hh)⟩) ?_ ⟨Nat.one_pos, not_true hc hf⟩
    · intro i l o _ q
      refine s_if (fun ho => wpS_pure ⟨rfl, q.2, .inl ho⟩) (fun ho => ?_)
      exact wpS_bind (s_ask H B hk ha (at_ (Nat.lt_of_le_of_lt (Nat.sub_le _ _) hh)) fun c hc => s_if (fun hn => wpS_pure ⟨rfl, q.2, .inr (hc.mp hn)⟩) (fun hn => wpS_pure ⟨rfl, dbl_lt q.1, not_true hc hn⟩))
    · intro l o q
      dsimp only
      have G := gal_dn M hh q.1 q.2
      refine s_loop2 (fun x l o => Gal left (fun j => rkAt r arr (base + j)) (r key.1) n l o ∧ o - l ≤ n - x) (fun l o => Gal left (fun j => rkAt r arr (base + j)) (r key.1) n l o ∧ o ≤ l) ?_ (fun l o q => ⟨q.1, met_of q.2⟩) (fun l o q => wpS_pure (h _ (q.1.close q.2))) ⟨G, Nat.le_trans (Nat.sub_le _ _) G.le⟩
      intro x l o hx q
      refine s_if (fun hlo => wpS_pure ⟨rfl, q.1, hlo⟩) (fun hlo => ?_)
      have m := mid_lt hlo q.2 hx
      exact wpS_bind (s_ask H B hk ha (at_ (Nat.lt_of_lt_of_le m.1 q.1.le)) fun c hc => s_if (fun hn => wpS_pure ⟨rfl, gal_lo M q.1 m.1 (hc.mp hn), m.2.1⟩) (fun hn => wpS_pure ⟨rfl, gal_hi M q.1 m.1 (not_true hc hn), m.2.2⟩))
end
end Mine.R
namespace Mine.R
open PySem PySem.W PySem.Calls PyProof.Rows

structure MM (R : Keyed → Keyed → Prop) (out A B all : List Keyed) : Prop where
  a : (out ++ A).Pairwise R
  b : (out ++ B).Pairwise R
  p : (out ++ (A ++ B)).Perm all
section
variable {R : Keyed → Keyed → Prop} {out A B X all : List Keyed}
theorem MM.comm (h : MM R out A B all) : MM R out B A all := ⟨h.b, h.a, (List.perm_append_comm.append_left out).trans h.p⟩
theorem MM.app (h : MM R out (X ++ A) B all) (hx : ∀ x ∈ X, ∀ y ∈ B, R x y) : MM R (out ++ X) A B all := by
  have a := h.a
  rw [← List.append_assoc] at a
  have b := List.pairwise_append.mp h.b
  refine ⟨a, List.pairwise_append.mpr ⟨(List.pairwise_append.mp a).1, b.2.1, fun x hx' y hy => ?_⟩, ?_⟩
  · rcases List.mem_append.mp hx' with h1 | h1
    · exact b.2.2 x h1 y hy
    · exact hx x h1 y hy
  · have := h.p
    rwa [List.append_assoc, ← List.append_assoc] at this ⊢
theorem MM.fin (h : MM R out A [] all) : (out ++ A).Pairwise R ∧ (out ++ A).Perm all := ⟨h.a, by have := h.p; rwa [List.append_nil] at this⟩
theorem MM.last (h : MM R out A B all) (hl : ∀ y ∈ B, ∀ x ∈ A, R y x) : (out ++ B ++ A).Pairwise R ∧ (out ++ B ++ A).Perm all := by
  have g := h.comm
  have g2 : MM R (out ++ B) [] A all := MM.app (X := B) (A := []) (by rw [List.append_nil]; exact g) hl
  exact g2.comm.fin
end
abbrev Le (r : Value → Int) (x y : Keyed) : Prop := r x.1 ≤ r y.1
noncomputable def Good (r : Value → Int) (all : List Keyed) (out : Array Keyed) : Prop := out.toList.Pairwise (Le r) ∧ out.toList.Perm all
theorem drop_at {a : Array Keyed} {i : Nat} {x : Keyed} (h : a[i]? = some x) : a.toList.drop i = x :: a.toList.drop (i + 1) := by
  rw [← Array.getElem?_toList] at h
  obtain ⟨hi, rfl⟩ := List.getElem?_eq_some_iff.mp h
  exact List.drop_eq_getElem_cons hi
theorem head_le {r : Value → Int} {x y : Keyed} {B out : List Keyed} (h : (out ++ y :: B).Pairwise (Le r)) (hxy : Le r x y) : ∀ z ∈ y :: B, Le r x z := by
  intro z hz
  rcases List.mem_cons.mp hz with rfl | hz
  · exact hxy
  · exact Int.le_trans hxy (List.rel_of_pairwise_cons (List.pairwise_append.mp h).2.1 hz)
noncomputable def MA (r : Value → Int) (a b : Array Keyed) (all : List Keyed) (out : Array Keyed) (ia ib : Nat) : Prop := MM (Le r) out.toList (a.toList.drop ia) (b.toList.drop ib) all
section
variable {r : Value → Int} {a b out : Array Keyed} {all : List Keyed} {ia ib k : Nat} {y z : Keyed}
theorem MA.comm (h : MA r a b all out ia ib) : MA r b a all out ib ia := MM.comm h
theorem MA.push (h : MA r a b all out ia ib) (hz : a[ia]? = some z) (hy : b[ib]? = some y) (hzy : Le r z y) : MA r a b all (out.push z) (ia + 1) ib := by
  unfold MA at h ⊢
  rw [drop_at hz] at h
  rw [Array.toList_push]
  refine MM.app (X := [z]) h fun x hx => ?_
  rw [List.mem_singleton.mp hx]
  have hb := h.b
  rw [drop_at hy] at hb ⊢
  exact head_le hb hzy
theorem MA.chunk (h : MA r a b all out ia ib) (hk : ia + k ≤ a.size) (hy : b[ib]? = some y) (hx : ∀ j, j < k → rkAt r a (ia + j) ≤ r y.1) : MA r a b all (out ++ a.extract ia (ia + k)) (ia + k) ib := by
  unfold MA at h ⊢
  have e : a.toList.drop ia = (a.toList.drop ia).take k ++ a.toList.drop (ia + k) := by rw [← List.drop_drop, List.take_append_drop]
  rw [Array.toList_append, Array.toList_extract, List.extract_eq_take_drop, Nat.add_sub_cancel_left]
  rw [e] at h
  refine MM.app h fun x hx' => ?_
  have hb := h.b
  rw [drop_at hy] at hb ⊢
  refine head_le hb ?_
  obtain ⟨j, hj, rfl⟩ := List.mem_iff_getElem.mp hx'
  have hj' : j < k := Nat.lt_of_lt_of_le hj (List.length_take_le _ _)
  have := hx j hj'
  rw [rkAt_eq (x := a[ia + j]'(by omega)) (getElem?_pos a _ (by omega))] at this
  simpa using this
theorem MA.done (h : MA r a b all out ia ib) (e : ib = b.size) : Good r all (out ++ a.extract ia a.size ++ b.extract ib b.size) := by
  unfold MA at h
  subst e
  rw [show b.toList.drop b.size = [] from List.drop_of_length_le (by simp)] at h
  unfold Good
  rw [Array.toList_append, Array.toList_append, Array.toList_extract, Array.toList_extract, List.extract_eq_take_drop, List.extract_eq_take_drop, Nat.sub_self, List.take_zero, List.append_nil, List.take_of_length_le (by simp)]
  exact h.fin
theorem MA.done' (h : MA r a b all out ia ib) (e : ia = a.size) : Good r all (out ++ a.extract ia a.size ++ b.extract ib b.size) := by
  have g := h.comm.done e
  subst e
  simpa using g
theorem MA.last (h : MA r a b all out ia ib) (e : ia + 1 = a.size) (hl : ∀ y ∈ b, ∀ x, a[a.size - 1]? = some x → Le r y x) : Good r all (out ++ b.extract ib b.size ++ a.extract ia a.size) := by
  unfold Good
  rw [Array.toList_append, Array.toList_append, Array.toList_extract, Array.toList_extract, List.extract_eq_take_drop, List.extract_eq_take_drop, List.take_of_length_le (by simp), List.take_of_length_le (by simp)]
  have hi : ia < a.size := by omega
  have hx : a[ia]? = some a[ia] := getElem?_pos a ia hi
  refine MM.last h fun y hy x hx' => ?_
  rw [drop_at hx, show a.toList.drop (ia + 1) = [] from List.drop_of_length_le (by simp; omega)] at hx'
  rw [List.mem_singleton.mp hx']
  exact hl y (Array.mem_def.mpr (List.mem_of_mem_drop hy)) _ (by rw [← e, Nat.add_sub_cancel]; exact hx)
end
end Mine.R
namespace Mine.R
open PySem PySem.W PySem.Calls PyProof.Rows

section
variable {r : Value → Int} {a b out : Array Keyed} {all : List Keyed} {ia ib k : Nat} {y z : Keyed}
theorem MA.pushB (h : MA r a b all out ia ib) (hz : a[ia]? = some z) (hy : b[ib]? = some y) (hyz : Le r y z) : MA r a b all (out.push y) ia (ib + 1) := (h.comm.push hy hz hyz).comm
theorem MA.chunkB (h : MA r a b all out ia ib) (hk : ib + k ≤ b.size) (hz : a[ia]? = some z) (hx : ∀ j, j < k → rkAt r b (ib + j) ≤ r z.1) : MA r a b all (out ++ b.extract ib (ib + k)) ia (ib + k) := (h.comm.chunk hk hz hx).comm
theorem MA.start {x : Keyed} (h : MM (Le r) [] a.toList b.toList all) (hx : b[0]? = some x) (hf : ∀ y ∈ a, Le r x y) : MA r a b all #[x] 0 1 := by
  have e := drop_at hx
  rw [List.drop_zero] at e
  have g := h.comm
  rw [e] at g
  exact (MM.app (X := [x]) g fun w hw v hv => by rw [List.mem_singleton.mp hw]; exact hf v (Array.mem_def.mpr hv)).comm
theorem le_dec {x y : Int} (h : decide (x < y) = true) : x ≤ y := Int.le_of_lt (of_decide_eq_true h)
theorem ge_dec {x y : Int} (h : ¬ decide (x < y) = true) : y ≤ x := Int.not_lt.mp fun k => h (decide_eq_true k)
end
section
variable {prog : Program} {w : World} {A : Around} {E : Value → Shared → Prop} {s : Shared} {κ : SortKind} {r : Value → Int} {a₀ : Array Keyed} {st : SortSt}
noncomputable def LikeA (κ : SortKind) (a₀ : Array Keyed) (st₀ st : SortSt) : Prop := (kindOf st = κ ∧ failedOf st = none) ∧ pendingOf st = pendingOf st₀ ∧ arrOf st = arrOf st₀
theorem LikeA.ok {st₀ : SortSt} (h : LikeA κ a₀ st₀ st) (B : SOk κ a₀ st₀) : SOk κ a₀ st := ⟨h.1.1, h.1.2, by rw [h.2.2]; exact B.perm⟩
theorem LikeA.gal {st₀ : SortSt} (h : LikeA κ a₀ st₀ st) (g : Nat) : LikeA κ a₀ st₀ (SortSt.mk' (kindOf st) (arrOf st) (pendingOf st) g (failedOf st)) := h
theorem ne_beq {x y : Nat} (h : ¬ (x == y) = true) : x ≠ y := fun e => h (beq_iff_eq.mpr e)
theorem s_jp {α β : Type} {F : β → StateT SortSt Sem α} {m : StateT SortSt Sem α} {c : Prop} [Decidable c] {x y : β} {Q : α → SortSt → Prop} (hm : m = if c then F x else F y) (h : ∀ z, wpS (model prog w) A E s (F z) Q st) : wpS (model prog w) A E s m Q st := by
  subst hm; split <;> exact h _
theorem s_jp2 {α β γ : Type} {F : β → γ → StateT SortSt Sem α} {m : StateT SortSt Sem α} {Q : α → SortSt → Prop} (P : β → γ → Prop) (hF : ∀ x y, P x y → wpS (model prog w) A E s (F x y) Q st)
    (h : (∀ x y, P x y → wpS (model prog w) A E s (F x y) Q st) → wpS (model prog w) A E s m Q st) : wpS (model prog w) A E s m Q st := h hF
theorem s_eq {α : Type} {m : StateT SortSt Sem α} {Q : α → SortSt → Prop} (h : ∀ m', m' = m → wpS (model prog w) A E s m' Q st) : wpS (model prog w) A E s m Q st := h m rfl
theorem lo_step {i j x y : Nat} (h : i + j < x + y) : (i + 1 < x + (y + 1) ∧ i + (j + 1) < x + (y + 1)) ∧ i + 1 < x + 1 + y ∧ i + (j + 1) < x + 1 + y := by omega
theorem fits {x n : Nat} (h : x < n) : x + (n - x) ≤ n ∧ 0 < n - x := by omega
theorem gal_lt {x k n : Nat} (hx : x < n) (hk : k ≤ n - x) (h : x + k ≠ n) : x + k < n := by omega
theorem gal_lt2 {x k n : Nat} (hx : x < n) (hk : k ≤ n - x) (h : x + k ≠ n) (h2 : x + k + 1 ≠ n) : x + k + 1 < n := by (first | lia | omega)
theorem lt_left {x k n : Nat} (h : x + k < n) : k < n - x := by omega
theorem le_fits {x k n : Nat} (hx : x < n) (hk : k ≤ n - x) : x + k ≤ n := by omega
theorem mono_of {arr : Array Keyed} (h : arr.toList.Pairwise (Le r)) (base n : Nat) (hn : base + n ≤ arr.size) : Mono (fun j => rkAt r arr (base + j)) n := by
  intro i j hij hj
  have hi : base + i < arr.size := by (first | lia | omega)
  have hj' : base + j < arr.size := by (first | lia | omega)
  show rkAt r arr (base + i) ≤ rkAt r arr (base + j)
  rw [rkAt_eq (getElem?_pos arr _ hi), rkAt_eq (getElem?_pos arr _ hj')]
  rcases Nat.lt_or_eq_of_le hij with hij | rfl
  · exact List.pairwise_iff_getElem.mp h (base + i) (base + j) (by simpa using hi) (by simpa using hj') (by (first | lia | omega))
  · exact Int.le_refl _
theorem rk_le {arr : Array Keyed} {i : Nat} {y : Keyed} {k : Int} (e : arr[i]? = some y) (h : k ≤ rkAt r arr i) : k ≤ r y.1 := by rwa [rkAt_eq e] at h
theorem s_at {arr : Array Keyed} {i : Nat} {x : Keyed} {Q : Keyed → SortSt → Prop} (e : arr[i]? = some x) (h : Q x st) : wpS (model prog w) A E s (elem' arr i) Q st := by
  rw [elem'_eq, e]
  exact wpS_pure h
noncomputable def OutOk {O X Y Z δ : Type} (J K : X → Y → Z → Prop) (R : O → Prop) : ForInStep (Option O × X × Y × Z × δ) → Prop
  | .done (some o, _) => R o
  | .done (none, x, y, z, _) => K x y z
  | .yield (none, x, y, z, _) => J x y z
  | .yield (some _, _) => False
theorem s_loop {O X Y Z δ α : Type} {n : Nat} {f : Nat → Option O × X × Y × Z × δ → StateT SortSt Sem (ForInStep (Option O × X × Y × Z × δ))} {F : Option O × X × Y × Z × δ → StateT SortSt Sem α} {Q : α → SortSt → Prop} {x : X} {y : Y} {z : Z} {d : δ}
    (L : SortSt → Prop) (J : Nat → X → Y → Z → Prop) (K : X → Y → Z → Prop) (R : O → Prop)
    (step : ∀ i st' x y z d, L st' → J i x y z → wpS (model prog w) A E s (f i (none, x, y, z, d)) (fun r st'' => L st'' ∧ OutOk (J (i + 1)) K R r) st')
    (fin : ∀ x y z, J (max 0 n) x y z → K x y z)
    (post1 : ∀ o c st', L st' → R o → wpS (model prog w) A E s (F (some o, c)) Q st')
    (post2 : ∀ x y z d st', L st' → K x y z → wpS (model prog w) A E s (F (none, x, y, z, d)) Q st')
    (h0 : L st) (h1 : J 0 x y z) : wpS (model prog w) A E s (forIn [0:n] (none, x, y, z, d) f >>= F) Q st := by
  refine wpS_bind (wpS_mono (wpS_forRange (I := fun i c st' => L st' ∧ OutOk (J i) K R (.yield c)) (Q := fun c st' => L st' ∧ OutOk (J 0) K R (.done c)) ?_ ?_ ⟨h0, h1⟩) ?_)
  · rintro i ⟨_ | o, x, y, z, d⟩ st' _ _ ⟨l, j⟩
    · refine wpS_mono (step i st' x y z d l j) ?_
      rintro (⟨_ | o, c⟩ | ⟨_ | o, c⟩) st2 q
      · exact q
      · exact q
      · exact q
      · exact q.2.elim
    · exact j.elim
  · rintro ⟨_ | o, x, y, z, d⟩ st' ⟨l, j⟩
    · exact ⟨l, fin x y z j⟩
    · exact j.elim
  · rintro ⟨_ | o, c⟩ st' ⟨l, q⟩
    · exact post2 _ _ _ _ _ l q
    · exact post1 _ _ _ l q
structure Lo (r : Value → Int) (a b : Array Keyed) (all : List Keyed) (i : Nat) (out : Array Keyed) (ia ib : Nat) : Prop where
  m : MA r a b all out ia ib
  h1 : ia + 1 < a.size
  h2 : ib < b.size
  h3 : i < ia + ib
theorem Lo.no {out : Array Keyed} {a b : Array Keyed} {all : List Keyed} {ia ib i : Nat} {P : Prop} (h : Lo r a b all i out ia ib) (hi : a.size + b.size ≤ i) : P := absurd h.h3 (by have := h.h1; have := h.h2; omega)
theorem mergeLo_ok {a b : Array Keyed} {all : List Keyed} {Q : Array Keyed → SortSt → Prop} (H : Asks prog w A s κ r a₀) (B : SOk κ a₀ st) (ha : AllIn a₀ a) (hb : AllIn a₀ b) (M : MM (Le r) [] a.toList b.toList all) (h1 : 1 ≤ a.size) (h2 : 1 ≤ b.size)
    (hf : ∀ y, b[0]? = some y → ∀ x ∈ a, Le r y x) (hl : ∀ y ∈ b, ∀ x, a[a.size - 1]? = some x → Le r y x)
    (h : ∀ out st', Good r all out → LikeA κ a₀ st st' → Q out st') : wpS (model prog w) A E s (mergeLoP a b) Q st := by
  have L : LikeA κ a₀ st st := ⟨⟨B.kind, B.failed⟩, rfl, rfl⟩
  refine wpS_bind (wpS_lift (wpAny_rule ⟨rfl, ?_⟩))
  refine wpS_bind (s_elem hb h2 fun x _ hx => ?_)
  have m0 := MA.start M hx (hf x hx)
  refine s_if (fun c1 => wpS_pure (h _ _ (m0.done (eq_of_beq c1)) L)) fun c1 => ?_
  refine s_if (fun c2 => wpS_pure (h _ _ (m0.last (eq_of_beq c2) hl) L)) fun c2 => ?_
  have n1 : 1 < b.size := Nat.lt_of_le_of_ne h2 (ne_beq c1)
  have n2 : 1 < a.size := Nat.lt_of_le_of_ne h1 (ne_beq c2)
  have ma := mono_of M.a
  have mb := mono_of M.b
  refine wpS_bind (wpS_get ?_)
  clear hx hf
  refine s_loop (L := LikeA κ a₀ st) (J := Lo r a b all) (K := fun _ _ _ => False) (R := Good r all) ?step ?fin (fun o c st' L hr => wpS_pure (h _ _ hr L)) (fun _ _ _ _ _ _ f => f.elim) L ⟨m0, n2, n1, Nat.one_pos⟩
  case fin => exact fun _ _ _ q => q.no (Nat.le_max_right ..)
  case step =>
    clear L m0
    intro i st' out ia ib mg L q
    refine s_loop (L := LikeA κ a₀ st) (J := fun j => Lo r a b all (i + j)) (K := Lo r a b all (i + 1)) (R := Good r all) ?jstep ?jfin (fun o c st' L hr => wpS_pure ⟨L, hr⟩) ?jpost L q
    case jfin => exact fun _ _ _ q => q.no (Nat.le_trans (Nat.le_max_right ..) (Nat.le_add_left ..))
    case jstep =>
      clear q L
      intro j st' out ia ib d L q
      have ia1 := Nat.lt_of_succ_lt q.h1
      have g := lo_step q.h3
      refine wpS_bind (s_elem hb q.h2 fun y hy ey => wpS_bind (s_elem ha ia1 fun z hz ez => wpS_bind (s_lt H (L.ok B) hy hz ?_)))
      refine s_if (fun c0 => wpS_bind (s_at ey ?_)) fun c0 => wpS_bind (s_at ez ?_)
      · have m' := q.m.pushB ez ey (le_dec c0)
        refine s_if (fun c1 => wpS_pure ⟨L, m'.done (eq_of_beq c1)⟩) fun c1 => ?_
        have e1 : ib + 1 < b.size := Nat.lt_of_le_of_ne q.h2 (ne_beq c1)
        exact s_if (fun _ => wpS_pure ⟨L, m', q.h1, e1, g.1.1⟩) fun _ => wpS_pure ⟨L, m', q.h1, e1, g.1.2⟩
      · have m' := q.m.push ez ey (ge_dec c0)
        refine s_if (fun c1 => wpS_pure ⟨L, m'.last (eq_of_beq c1) hl⟩) fun c1 => ?_
        have e1 : ia + 1 + 1 < a.size := Nat.lt_of_le_of_ne q.h1 (ne_beq c1)
        exact s_if (fun _ => wpS_pure ⟨L, m', e1, q.h2, g.2.1⟩) fun _ => wpS_pure ⟨L, m', e1, q.h2, g.2.2⟩
    case jpost =>
      clear q L
      intro out ia ib d st' L q
      refine wpS_bind (wpS_lift (wpAny_rule ⟨rfl, ?_⟩))
      refine s_loop (L := LikeA κ a₀ st) (J := fun _ => Lo r a b all (i + 1)) (K := Lo r a b all (i + 1)) (R := Good r all) ?kstep (fun _ _ _ q => q) (fun o c st' L hr => wpS_pure ⟨L, hr⟩) (fun _ _ _ _ _ L q => wpS_bind (wpS_modify (wpS_pure ⟨L.gal _, q⟩))) L q
      clear q L
      intro k st3 out ia ib d L q
      refine s_eq fun m' hm => ?_
      extract_lets _ _ _ _ _ _ _ _ _ _ _ _ jp _ at hm
      refine s_jp (F := jp ()) hm fun g => ?_
      clear hm
      refine wpS_bind (wpS_modify ?_)
      replace L := L.gal g
      have ia1 := Nat.lt_of_succ_lt q.h1
      have f := fits ia1
      refine wpS_bind (s_elem hb q.h2 fun y hy ey => wpS_bind (gallop_ok H (L.ok B) hy ha f.1 f.2 (ma ia _ f.1) fun k G => ?_))
      refine s_eq fun m' hm => ?_
      dsimp -zeta only at hm
      extract_lets _ jp2 at hm
      refine s_jp2 (F := jp2 ()) (fun out ia' => MA r a b all out ia' ib ∧ ia' + 1 < a.size ∧ ia ≤ ia' ∧ r y.1 ≤ rkAt r a ia') ?_ ?_
      · intro out ia' p
        clear hm
        refine wpS_bind (s_at ey ?_)
        have i1 := Nat.lt_of_succ_lt p.2.1
        have ez := getElem?_pos a ia' i1
        have m2 := p.1.pushB ez ey (rk_le ez p.2.2.2)
        refine s_if (fun c1 => wpS_pure ⟨L, m2.done (eq_of_beq c1)⟩) fun c1 => ?_
        have e1 : ib + 1 < b.size := Nat.lt_of_le_of_ne q.h2 (ne_beq c1)
        have f := fits e1
        refine wpS_bind (s_at ez (wpS_bind (gallop_ok H (L.ok B) (ha _ (Array.getElem_mem i1)) hb f.1 f.2 (mb (ib + 1) _ f.1) fun k G => ?_)))
        generalize a[ia'] = z at *
        refine s_eq fun m' hm => ?_
        dsimp -zeta only at hm
        extract_lets _ _ jp3 at hm
        refine s_jp2 (F := jp3 ()) (fun out ib' => MA r a b all out ia' ib' ∧ ib' < b.size ∧ ib ≤ ib' ∧ r z.1 ≤ rkAt r b ib') ?_ ?_
        · intro out ib' p2
          clear hm
          refine wpS_bind (s_at ez ?_)
          have ey2 := getElem?_pos b ib' p2.2.1
          have m3 := p2.1.push ez ey2 (rk_le ey2 p2.2.2.2)
          refine s_if (fun c1 => wpS_pure ⟨L, m3.last (eq_of_beq c1) hl⟩) fun c1 => ?_
          have e1 : ia' + 1 + 1 < a.size := Nat.lt_of_le_of_ne p.2.1 (ne_beq c1)
          have e2 : i + 1 < (ia' + 1) + ib' := Nat.lt_of_lt_of_le q.h3 (Nat.add_le_add (Nat.le_succ_of_le p.2.2.1) p2.2.2.1)
          exact s_if (fun _ => wpS_pure ⟨L, m3, e1, p2.2.1, e2⟩) fun _ => wpS_pure ⟨L, m3, e1, p2.2.1, e2⟩
        · intro hj
          clear_value jp3
          subst hm
          have z0 : ∀ (hk : ib + 1 + k < b.size), r z.1 ≤ rkAt r b (ib + 1 + k) := fun hk => Int.not_lt.mp fun q => G.z k (Nat.le_refl _) (lt_left hk) q
          refine s_if (fun c0 => ?_) fun c0 => hj _ _ ⟨m2, e1, Nat.le_succ ib, by
            have k0 : k = 0 := Nat.eq_zero_of_not_pos c0
            subst k0
            exact z0 e1⟩
          have m3 := m2.chunkB (le_fits e1 G.le) ez fun j hj => Int.le_of_lt (G.a j hj)
          refine s_if (fun c1 => wpS_pure ⟨L, m3.done (eq_of_beq c1)⟩) fun c1 => ?_
          have e2 := gal_lt e1 G.le (ne_beq c1)
          exact hj _ _ ⟨m3, e2, Nat.le_trans (Nat.le_succ ib) (Nat.le_add_right _ k), z0 e2⟩
      · intro hj
        clear_value jp2
        subst hm
        have z0 : ∀ (hk : ia + k < a.size), r y.1 ≤ rkAt r a (ia + k) := fun hk => Int.le_of_lt (Int.not_le.mp fun q => G.z k (Nat.le_refl _) (lt_left hk) q)
        refine s_if (fun c0 => ?_) fun c0 => hj _ _ ⟨q.m, q.h1, Nat.le_refl _, by
          have k0 : k = 0 := Nat.eq_zero_of_not_pos c0
          subst k0
          exact z0 ia1⟩
        have m3 := q.m.chunk (le_fits ia1 G.le) ey fun j hj => G.a j hj
        refine s_if (fun c1 => wpS_pure ⟨L, m3.last (eq_of_beq c1) hl⟩) fun c1 => ?_
        refine s_if (fun c2 => wpS_pure ⟨L, m3.done' (eq_of_beq c2)⟩) fun c2 => ?_
        have e1 := gal_lt2 ia1 G.le (ne_beq c2) (ne_beq c1)
        exact hj _ _ ⟨m3, e1, Nat.le_add_right _ k, z0 (Nat.lt_of_succ_lt e1)⟩
end
end Mine.R
namespace Mine.R
open PySem PySem.W PySem.Calls PyProof.Rows

abbrev Ge (r : Value → Int) (x y : Keyed) : Prop := r y.1 ≤ r x.1
noncomputable def MB (r : Value → Int) (a b : Array Keyed) (all : List Keyed) (out : Array Keyed) (na nb : Nat) : Prop := MM (Ge r) out.toList (a.toList.take na).reverse (b.toList.take nb).reverse all
theorem take_at {a : Array Keyed} {n : Nat} {x : Keyed} (h1 : 1 ≤ n) (h : a[n - 1]? = some x) : (a.toList.take n).reverse = x :: (a.toList.take (n - 1)).reverse := by
  obtain ⟨m, rfl⟩ : ∃ m, n = m + 1 := ⟨n - 1, by omega⟩
  rw [Nat.add_sub_cancel] at h ⊢
  rw [← Array.getElem?_toList] at h
  rw [List.take_succ, h, Option.toList_some, List.reverse_append]
  rfl
theorem head_ge {r : Value → Int} {x y : Keyed} {B out : List Keyed} (h : (out ++ y :: B).Pairwise (Ge r)) (hxy : Ge r x y) : ∀ z ∈ y :: B, Ge r x z := by
  intro z hz
  rcases List.mem_cons.mp hz with rfl | hz
  · exact hxy
  · exact Int.le_trans (List.rel_of_pairwise_cons (List.pairwise_append.mp h).2.1 hz) hxy
section
variable {r : Value → Int} {a b out : Array Keyed} {all : List Keyed} {na nb k : Nat} {y z : Keyed}
theorem MB.comm (h : MB r a b all out na nb) : MB r b a all out nb na := MM.comm h
theorem MB.push (h : MB r a b all out na nb) (h1 : 1 ≤ na) (hz : a[na - 1]? = some z) (h2 : 1 ≤ nb) (hy : b[nb - 1]? = some y) (hyz : Le r y z) : MB r a b all (out.push z) (na - 1) nb := by
  unfold MB at h ⊢
  rw [take_at h1 hz] at h
  rw [Array.toList_push]
  refine MM.app (X := [z]) h fun x hx => ?_
  rw [List.mem_singleton.mp hx]
  have hb := h.b
  rw [take_at h2 hy] at hb ⊢
  exact head_ge hb hyz
theorem MB.pushB (h : MB r a b all out na nb) (h1 : 1 ≤ na) (hz : a[na - 1]? = some z) (h2 : 1 ≤ nb) (hy : b[nb - 1]? = some y) (hzy : Le r z y) : MB r a b all (out.push y) na (nb - 1) := (h.comm.push h2 hy h1 hz hzy).comm
theorem MB.chunk (h : MB r a b all out na nb) (hk : k ≤ na) (hn : na ≤ a.size) (h2 : 1 ≤ nb) (hy : b[nb - 1]? = some y) (hx : ∀ j, k ≤ j → j < na → r y.1 ≤ rkAt r a j) : MB r a b all (out ++ (a.extract k na).reverse) k nb := by
  unfold MB at h ⊢
  have e : (a.toList.take na).reverse = ((a.toList.take na).drop k).reverse ++ (a.toList.take k).reverse := by
    rw [← List.reverse_append]
    congr 1
    conv => lhs; rw [← List.take_append_drop k (a.toList.take na)]
    rw [List.take_take, Nat.min_eq_left hk]
  rw [Array.toList_append, Array.toList_reverse, Array.toList_extract, List.extract_eq_take_drop, ← List.drop_take]
  rw [e] at h
  refine MM.app h fun x hx' => ?_
  have hb := h.b
  rw [take_at h2 hy] at hb ⊢
  refine head_ge hb ?_
  obtain ⟨j, hj, rfl⟩ := List.mem_iff_getElem.mp (List.mem_reverse.mp hx')
  have hl : j + k < na := by simp at hj; (first | lia | omega)
  have hs : k + j < a.size := by (first | lia | omega)
  have := hx (k + j) (Nat.le_add_right _ _) (by (first | lia | omega))
  rw [rkAt_eq (getElem?_pos a _ hs)] at this
  simpa using this
theorem back {r : Value → Int} {all l : List Keyed} {out : Array Keyed} (h : l.Pairwise (Ge r) ∧ l.Perm all) (e : out.toList = l.reverse) : Good r all out := by
  unfold Good
  rw [e]
  exact ⟨List.pairwise_reverse.mpr h.1, l.reverse_perm.trans h.2⟩
theorem MB.done (h : MB r a b all out na nb) (e : nb = 0) : Good r all (a.extract 0 na ++ b.extract 0 nb ++ out.reverse) := by
  subst e
  refine back (MM.fin (R := Ge r) (out := out.toList) (A := (a.toList.take na).reverse) (all := all) h) ?_
  simp
theorem MB.done' (h : MB r a b all out na nb) (e : na = 0) : Good r all (a.extract 0 na ++ b.extract 0 nb ++ out.reverse) := by
  have g := h.comm.done e
  subst e
  simpa using g
theorem MB.last (h : MB r a b all out na nb) (e : nb = 1) (hf : ∀ y, b[0]? = some y → ∀ x ∈ a, Le r y x) : Good r all (b.extract 0 nb ++ a.extract 0 na ++ out.reverse) := by
  subst e
  refine back (MM.last (MM.comm h) fun x hx y hy => ?_) ?_
  · cases hb : b[0]? with
    | none =>
      rw [List.mem_reverse, List.take_one, List.head?_eq_getElem?, Array.getElem?_toList, hb] at hy
      cases hy
    | some w =>
      rw [List.mem_reverse, List.take_one, List.head?_eq_getElem?, Array.getElem?_toList, hb] at hy
      rw [List.mem_singleton.mp hy]
      exact hf w hb x (Array.mem_def.mpr (List.mem_of_mem_take (List.mem_reverse.mp hx)))
  · simp
theorem MB.start {x : Keyed} (h : MM (Le r) [] a.toList b.toList all) (h1 : 1 ≤ a.size) (hx : a[a.size - 1]? = some x) (hl : ∀ y ∈ b, Le r y x) : MB r a b all #[x] (a.size - 1) b.size := by
  have g : MM (Ge r) [] (a.toList.take a.size).reverse (b.toList.take b.size).reverse all := by
    rw [List.take_of_length_le (by simp), List.take_of_length_le (by simp)]
    exact ⟨List.pairwise_reverse.mpr h.a, List.pairwise_reverse.mpr h.b, ((List.reverse_perm _).append (List.reverse_perm _)).trans h.p⟩
  rw [take_at h1 hx] at g
  exact MM.app (X := [x]) g fun w hw v hv => by
    rw [List.mem_singleton.mp hw]
    exact hl v (Array.mem_def.mpr (List.mem_of_mem_take (List.mem_reverse.mp hv)))
end
end Mine.R
namespace Mine.R
open PySem PySem.W PySem.Calls PyProof.Rows

section
variable {prog : Program} {w : World} {A : Around} {E : Value → Shared → Prop} {s : Shared} {κ : SortKind} {r : Value → Int} {a₀ : Array Keyed} {st : SortSt}
theorem hi_a {n A : Nat} (h : 1 ≤ n ∧ n ≤ A) (e : n - 1 ≠ 0) : 1 ≤ n - 1 ∧ n - 1 ≤ A := by omega
theorem hi_b {n B : Nat} (h : 2 ≤ n ∧ n ≤ B) (e : n - 1 ≠ 1) : 2 ≤ n - 1 ∧ n - 1 ≤ B := by omega
theorem hi_less {x y i j s : Nat} (h1 : 1 ≤ x) (h2 : 1 ≤ y) (h : x + y + (i + j) < s) : (x - 1 + y + (i + 1) < s ∧ x - 1 + y + (i + (j + 1)) < s) ∧ x + (y - 1) + (i + 1) < s ∧ x + (y - 1) + (i + (j + 1)) < s := by omega
theorem pred_lt {x n : Nat} (h : 1 ≤ x) (h' : x ≤ n) : x - 1 < n := by omega
theorem zero_fits {x n : Nat} (h : x ≤ n) : 0 + x ≤ n := by omega
theorem hi_fall {x y x' y' i s : Nat} (h : x + y + (i + 1) < s) (hx : x' ≤ x) (hy : y' ≤ y - 1) : x' - 1 + y' + (i + 1) < s := by omega
theorem two_of {k : Nat} (h : k ≠ 1) (h' : k ≠ 0) : 2 ≤ k := by omega
theorem hi_start {x y : Nat} (h : 1 ≤ x) : x - 1 + y + 0 < x + y := by omega
theorem back_lt {k n : Nat} (h1 : 1 ≤ k) : k - 1 < k := by omega
theorem not_sub {k n : Nat} (hk : k ≤ n) (h : ¬ n - k > 0) : k = n := by omega
theorem rk_ge {arr : Array Keyed} {i : Nat} {y : Keyed} {k : Int} (e : arr[i]? = some y) (h : rkAt r arr i ≤ k) : r y.1 ≤ k := by rwa [rkAt_eq e] at h
structure Hi (r : Value → Int) (a b : Array Keyed) (all : List Keyed) (i na nb : Nat) (out : Array Keyed) : Prop where
  m : MB r a b all out na nb
  h1 : 1 ≤ na ∧ na ≤ a.size
  h2 : 2 ≤ nb ∧ nb ≤ b.size
  h3 : na + nb + i < a.size + b.size
theorem Hi.no {out : Array Keyed} {a b : Array Keyed} {all : List Keyed} {na nb i : Nat} {P : Prop} (h : Hi r a b all i na nb out) (hi : a.size + b.size ≤ i) : P := absurd h.h3 (by omega)
theorem mergeHi_ok {a b : Array Keyed} {all : List Keyed} {Q : Array Keyed → SortSt → Prop} (H : Asks prog w A s κ r a₀) (B : SOk κ a₀ st) (ha : AllIn a₀ a) (hb : AllIn a₀ b) (M : MM (Le r) [] a.toList b.toList all) (h1 : 1 ≤ a.size) (h2 : 1 ≤ b.size)
    (hf : ∀ y, b[0]? = some y → ∀ x ∈ a, Le r y x) (hl : ∀ y ∈ b, ∀ x, a[a.size - 1]? = some x → Le r y x)
    (h : ∀ out st', Good r all out → LikeA κ a₀ st st' → Q out st') : wpS (model prog w) A E s (mergeHiP a b) Q st := by
  have L : LikeA κ a₀ st st := ⟨⟨B.kind, B.failed⟩, rfl, rfl⟩
  refine wpS_bind (wpS_lift (wpAny_rule ⟨rfl, ?_⟩))
  refine wpS_bind (s_elem ha (pred_lt h1 (Nat.le_refl _)) fun x _ hx => ?_)
  have m0 := MB.start M h1 hx fun y hy => hl y hy x hx
  refine s_if (fun c1 => wpS_pure (h _ _ (m0.done' (eq_of_beq c1)) L)) fun c1 => ?_
  refine s_if (fun c2 => wpS_pure (h _ _ (m0.last (eq_of_beq c2) hf) L)) fun c2 => ?_
  have n1 : a.size - 1 ≠ 0 := ne_beq c1
  have n2 : b.size ≠ 1 := ne_beq c2
  have ma : ∀ n, n ≤ a.size → Mono (fun j => rkAt r a (0 + j)) n := fun n hn => mono_of M.a 0 n (zero_fits hn)
  have mb : ∀ n, n ≤ b.size → Mono (fun j => rkAt r b (0 + j)) n := fun n hn => mono_of M.b 0 n (zero_fits hn)
  refine wpS_bind (wpS_get ?_)
  clear hl hx
  refine s_loop (L := LikeA κ a₀ st) (J := Hi r a b all) (K := fun _ _ _ => False) (R := Good r all) ?step (fun _ _ _ q => q.no (Nat.le_max_right ..)) (fun o c st' L hr => wpS_pure (h _ _ hr L)) (fun _ _ _ _ _ _ f => f.elim) L ⟨m0, ⟨Nat.one_le_iff_ne_zero.mpr n1, Nat.sub_le _ _⟩, ⟨Nat.lt_of_le_of_ne h2 (Ne.symm n2), Nat.le_refl _⟩, hi_start h1⟩
  clear L m0
  intro i st' na nb out mg L q
  refine s_loop (L := LikeA κ a₀ st) (J := fun j => Hi r a b all (i + j)) (K := Hi r a b all (i + 1)) (R := Good r all) ?jstep (fun _ _ _ q => q.no (Nat.le_trans (Nat.le_max_right ..) (Nat.le_add_left ..))) (fun o c st' L hr => wpS_pure ⟨L, hr⟩) ?jpost L q
  case jstep =>
    clear q L
    intro j st' na nb out d L q
    have h2' := Nat.le_of_succ_le q.h2.1
    have l1 := pred_lt h2' q.h2.2
    have l2 := pred_lt q.h1.1 q.h1.2
    have g := hi_less q.h1.1 h2' q.h3
    refine wpS_bind (s_elem hb l1 fun y hy ey => wpS_bind (s_elem ha l2 fun z hz ez => wpS_bind (s_lt H (L.ok B) hy hz ?_)))
    refine s_if (fun c0 => wpS_bind (s_at ez ?_)) fun c0 => wpS_bind (s_at ey ?_)
    · have m' := q.m.push q.h1.1 ez h2' ey (le_dec c0)
      refine s_if (fun c1 => wpS_pure ⟨L, m'.done' (eq_of_beq c1)⟩) fun c1 => ?_
      have e1 := hi_a q.h1 (ne_beq c1)
      exact s_if (fun _ => wpS_pure ⟨L, m', e1, q.h2, g.1.1⟩) fun _ => wpS_pure ⟨L, m', e1, q.h2, g.1.2⟩
    · have m' := q.m.pushB q.h1.1 ez h2' ey (ge_dec c0)
      refine s_if (fun c1 => wpS_pure ⟨L, m'.last (eq_of_beq c1) hf⟩) fun c1 => ?_
      have e1 := hi_b q.h2 (ne_beq c1)
      exact s_if (fun _ => wpS_pure ⟨L, m', q.h1, e1, g.2.1⟩) fun _ => wpS_pure ⟨L, m', q.h1, e1, g.2.2⟩
  case jpost =>
    clear q L
    intro na nb out d st' L q
    refine wpS_bind (wpS_lift (wpAny_rule ⟨rfl, ?_⟩))
    refine s_loop (L := LikeA κ a₀ st) (J := fun _ => Hi r a b all (i + 1)) (K := Hi r a b all (i + 1)) (R := Good r all) ?kstep (fun _ _ _ q => q) (fun o c st' L hr => wpS_pure ⟨L, hr⟩) (fun _ _ _ _ _ L q => wpS_bind (wpS_modify (wpS_pure ⟨L.gal _, q⟩))) L q
    clear q L
    intro k st3 na nb out d L q
    refine s_eq fun m' hm => ?_
    extract_lets _ _ _ _ _ _ _ _ _ _ _ _ jp _ at hm
    refine s_jp (F := jp ()) hm fun g => ?_
    clear hm
    refine wpS_bind (wpS_modify ?_)
    replace L := L.gal g
    have h2' := Nat.le_of_succ_le q.h2.1
    have l1 := pred_lt h2' q.h2.2
    refine wpS_bind (s_elem hb l1 fun y hy ey => wpS_bind (gallop_ok H (L.ok B) hy ha (zero_fits q.h1.2) (pred_lt q.h1.1 (Nat.le_refl _)) (ma _ q.h1.2) fun k G => ?_))
    refine s_eq fun m' hm => ?_
    dsimp -zeta only at hm
    extract_lets _ _ jp2 at hm
    refine s_jp2 (F := jp2 ()) (fun na' out => MB r a b all out na' nb ∧ 1 ≤ na' ∧ na' ≤ na ∧ rkAt r a (na' - 1) ≤ r y.1) ?_ ?_
    · intro na' out p
      clear hm
      refine wpS_bind (s_at ey ?_)
      have i1 := pred_lt p.2.1 (Nat.le_trans p.2.2.1 q.h1.2)
      have ez := getElem?_pos a (na' - 1) i1
      have hz : a[na' - 1] ∈ a₀ := ha _ (Array.getElem_mem (xs := a) i1)
      have m2 := p.1.pushB p.2.1 ez h2' ey (rk_ge ez p.2.2.2)
      refine s_if (fun c1 => wpS_pure ⟨L, m2.last (eq_of_beq c1) hf⟩) fun c1 => ?_
      have e1 := hi_b q.h2 (ne_beq c1)
      have e1' := Nat.le_of_succ_le e1.1
      refine wpS_bind (s_at ez (wpS_bind (gallop_ok H (L.ok B) hz hb (zero_fits e1.2) (pred_lt e1' (Nat.le_refl _)) (mb _ e1.2) fun k G => ?_)))
      generalize a[na' - 1] = z at *
      refine s_eq fun m' hm => ?_
      dsimp -zeta only at hm
      extract_lets _ _ _ jp3 at hm
      refine s_jp2 (F := jp3 ()) (fun nb' out => MB r a b all out na' nb' ∧ 2 ≤ nb' ∧ nb' ≤ nb - 1 ∧ rkAt r b (nb' - 1) ≤ r z.1) ?_ ?_
      · intro nb' out p2
        clear hm
        refine wpS_bind (s_at ez ?_)
        have h3' := Nat.le_of_succ_le p2.2.1
        have ey2 := getElem?_pos b (nb' - 1) (pred_lt h3' (Nat.le_trans p2.2.2.1 e1.2))
        have m3 := p2.1.push p.2.1 ez h3' ey2 (rk_ge ey2 p2.2.2.2)
        refine s_if (fun c1 => wpS_pure ⟨L, m3.done' (eq_of_beq c1)⟩) fun c1 => ?_
        have e4 := hi_a ⟨p.2.1, Nat.le_trans p.2.2.1 q.h1.2⟩ (ne_beq c1)
        have e2 : 2 ≤ nb' ∧ nb' ≤ b.size := ⟨p2.2.1, Nat.le_trans p2.2.2.1 e1.2⟩
        have e3 := hi_fall q.h3 p.2.2.1 p2.2.2.1
        exact s_if (fun _ => wpS_pure ⟨L, m3, e4, e2, e3⟩) fun _ => wpS_pure ⟨L, m3, e4, e2, e3⟩
      · intro hj
        clear_value jp3
        subst hm
        have z0 : 1 ≤ k → rkAt r b (k - 1) ≤ r z.1 := fun hk => by
          have q := G.a (k - 1) (back_lt (n := k) hk)
          rw [Nat.zero_add] at q
          exact Int.le_of_lt q
        refine s_if (fun c0 => ?_) fun c0 => hj _ _ ⟨m2, e1.1, Nat.le_refl _, by
          have k0 := not_sub G.le c0
          subst k0
          exact z0 e1'⟩
        have m3 := (m2.comm.chunk G.le e1.2 p.2.1 ez fun j hj hn => by
          have q := G.z j hj hn
          rw [Nat.zero_add] at q
          exact Int.not_lt.mp q).comm
        refine s_if (fun c1 => wpS_pure ⟨L, m3.last (eq_of_beq c1) hf⟩) fun c1 => ?_
        refine s_if (fun c2 => wpS_pure ⟨L, m3.done (eq_of_beq c2)⟩) fun c2 => ?_
        have e2 := two_of (ne_beq c1) (ne_beq c2)
        exact hj _ _ ⟨m3, e2, G.le, z0 (Nat.le_of_succ_le e2)⟩
    · intro hj
      clear_value jp2
      subst hm
      have z0 : 1 ≤ k → rkAt r a (k - 1) ≤ r y.1 := fun hk => by
        have q := G.a (k - 1) (back_lt (n := k) hk)
        rw [Nat.zero_add] at q
        exact q
      refine s_if (fun c0 => ?_) fun c0 => hj _ _ ⟨q.m, q.h1.1, Nat.le_refl _, by
        have k0 := not_sub G.le c0
        subst k0
        exact z0 q.h1.1⟩
      have m3 := q.m.chunk G.le q.h1.2 h2' ey fun j hj hn => by
        have q := G.z j hj hn
        rw [Nat.zero_add] at q
        exact Int.le_of_lt (Int.not_le.mp q)
      refine s_if (fun c1 => wpS_pure ⟨L, m3.done' (eq_of_beq c1)⟩) fun c1 => ?_
      have k1 : 1 ≤ k := Nat.one_le_iff_ne_zero.mpr (ne_beq c1)
      exact hj _ _ ⟨m3, k1, G.le, z0 k1⟩
end
end Mine.R
namespace Mine.R
open PySem PySem.W PySem.Calls PyProof.Rows

noncomputable def seg (arr : Array Keyed) (lo n : Nat) : List Keyed := (arr.toList.drop lo).take n
noncomputable def Seg (r : Value → Int) (arr : Array Keyed) (lo n : Nat) : Prop := (seg arr lo n).Pairwise (Le r)
section
variable {r : Value → Int} {arr arr' : Array Keyed} {lo n k m : Nat} {x : Keyed}
theorem seg_get (j : Nat) : (seg arr lo n)[j]? = if j < n then arr[lo + j]? else none := by
  unfold seg
  rw [List.getElem?_take]
  split
  · rw [List.getElem?_drop, Array.getElem?_toList]
  · rfl
theorem seg_mem (h : x ∈ seg arr lo n) : ∃ j, j < n ∧ arr[lo + j]? = some x := by
  obtain ⟨j, hj⟩ := List.mem_iff_getElem?.mp h
  rw [seg_get] at hj
  split at hj
  · exact ⟨j, ‹_›, hj⟩
  · cases hj
theorem seg_len (h : lo + n ≤ arr.size) : (seg arr lo n).length = n := by
  unfold seg
  rw [List.length_take, List.length_drop, Array.length_toList]
  (first | lia | omega)
theorem seg_split (h : k ≤ n) : seg arr lo n = seg arr lo k ++ seg arr (lo + k) (n - k) := by
  unfold seg
  rw [← List.drop_drop]
  conv => lhs; rw [← List.take_append_drop k ((arr.toList.drop lo).take n)]
  rw [List.take_take, Nat.min_eq_left h, List.drop_take]
theorem seg_add : seg arr lo (n + m) = seg arr lo n ++ seg arr (lo + n) m := by
  rw [seg_split (k := n) (Nat.le_add_right _ _), Nat.add_sub_cancel_left]
theorem seg_rest : arr.toList.drop lo = seg arr lo n ++ arr.toList.drop (lo + n) := by
  unfold seg
  rw [← List.drop_drop, List.take_append_drop]
theorem seg_extract : (arr.extract lo m).toList = seg arr lo (m - lo) := by
  rw [Array.toList_extract, List.extract_eq_take_drop]; rfl
theorem seg_all : seg arr 0 arr.size = arr.toList := by
  unfold seg
  rw [List.drop_zero, List.take_of_length_le (by simp)]
theorem Seg.mono (h : Seg r arr lo n) (hn : lo + n ≤ arr.size) : Mono (fun j => rkAt r arr (lo + j)) n := by
  intro i j hij hj
  have hi : lo + i < arr.size := by (first | lia | omega)
  have hj' : lo + j < arr.size := by (first | lia | omega)
  show rkAt r arr (lo + i) ≤ rkAt r arr (lo + j)
  rw [rkAt_eq (getElem?_pos arr _ hi), rkAt_eq (getElem?_pos arr _ hj')]
  rcases Nat.lt_or_eq_of_le hij with hij | rfl
  · have l := seg_len hn
    have p := List.pairwise_iff_getElem.mp h i j (by (first | lia | omega)) (by (first | lia | omega)) hij
    have e1 : (seg arr lo n)[i]'(by (first | lia | omega)) = arr[lo + i] := by
      have := seg_get (arr := arr) (lo := lo) (n := n) i
      rw [List.getElem?_eq_getElem (by (first | lia | omega)), if_pos (by (first | lia | omega)), getElem?_pos arr _ hi] at this
      exact Option.some.inj this
    have e2 : (seg arr lo n)[j]'(by (first | lia | omega)) = arr[lo + j] := by
      have := seg_get (arr := arr) (lo := lo) (n := n) j
      rw [List.getElem?_eq_getElem (by (first | lia | omega)), if_pos hj, getElem?_pos arr _ hj'] at this
      exact Option.some.inj this
    rw [e1, e2] at p
    exact p
  · exact Int.le_refl _
theorem seg_congr (h : ∀ j, j < n → arr'[lo + j]? = arr[lo + j]?) : seg arr' lo n = seg arr lo n := by
  refine List.ext_getElem? fun j => ?_
  rw [seg_get, seg_get]
  split
  · exact h j ‹_›
  · rfl
noncomputable def Splice (arr arr' : Array Keyed) (lo : Nat) (W : List Keyed) : Prop := arr'.toList = arr.toList.take lo ++ (W ++ arr.toList.drop (lo + W.length))
theorem Splice.at {W : List Keyed} (h : Splice arr arr' lo W) (hl : lo + W.length ≤ arr.size) (j : Nat) : arr'[j]? = if j < lo then arr[j]? else if j < lo + W.length then W[j - lo]? else arr[j]? := by
  rw [← Array.getElem?_toList, h]
  have e : (arr.toList.take lo).length = lo := by rw [List.length_take, Array.length_toList]; omega
  by_cases h1 : j < lo
  · rw [if_pos h1, List.getElem?_append_left (by omega), List.getElem?_take, if_pos h1, Array.getElem?_toList]
  · rw [if_neg h1, List.getElem?_append_right (by omega), e]
    by_cases h2 : j < lo + W.length
    · rw [if_pos h2, List.getElem?_append_left (by omega)]
    · rw [if_neg h2, List.getElem?_append_right (by omega), List.getElem?_drop, Array.getElem?_toList]
      congr 1
      omega
theorem Splice.seg {W : List Keyed} (h : Splice arr arr' lo W) (hl : lo + W.length ≤ arr.size) : seg arr' lo W.length = W := by
  refine List.ext_getElem? fun j => ?_
  rw [seg_get]
  split
  · rw [h.at hl, if_neg (by omega), if_pos (by omega), Nat.add_sub_cancel_left]
  · rw [List.getElem?_eq_none (by omega)]
theorem Splice.perm {W : List Keyed} (h : Splice arr arr' lo W) (hp : W.Perm (Mine.R.seg arr lo W.length)) : arr'.Perm arr := by
  rw [Array.perm_iff_toList_perm, h]
  have e : arr.toList = arr.toList.take lo ++ (Mine.R.seg arr lo W.length ++ arr.toList.drop (lo + W.length)) := by
    unfold Mine.R.seg
    rw [← List.drop_drop, List.take_append_drop, List.take_append_drop]
  rw [e]
  conv => lhs; rw [← e]
  exact (hp.append_right _).append_left _
theorem write_list : ∀ (l : List Keyed) (xs : Array Keyed) (i p : Nat), p + i + l.length ≤ xs.size → ((l.zipIdx i).foldl (fun a x => a.setIfInBounds (p + x.2) x.1) xs).toList = xs.toList.take (p + i) ++ (l ++ xs.toList.drop (p + i + l.length))
  | [], xs, i, p, _ => by simp
  | x :: l, xs, i, p, h => by
    have hlt : p + i < xs.size := by simp at h; omega
    rw [List.zipIdx_cons, List.foldl_cons, write_list l _ (i + 1) p (by rw [Array.size_setIfInBounds]; simp at h; omega)]
    rw [Array.toList_setIfInBounds, ← Nat.add_assoc, List.take_succ, List.take_set_of_le (Nat.le_refl _), List.getElem?_set_self (by simpa using hlt), List.drop_set_of_lt (by omega)]
    simp [Nat.add_assoc, Nat.add_comm 1]
end
end Mine.R
namespace Mine.R
open PySem PySem.W PySem.Calls PyProof.Rows

noncomputable def Runs (r : Value → Int) (arr : Array Keyed) : Nat → List (Nat × Nat × Nat) → Nat → Prop
  | s, [], e => s = e
  | s, (a, n, _) :: l, e => a = s ∧ 1 ≤ n ∧ Seg r arr a n ∧ Runs r arr (s + n) l e
section
variable {r : Value → Int} {arr arr' : Array Keyed}
theorem Runs.le : ∀ {l : List (Nat × Nat × Nat)} {s e : Nat}, Runs r arr s l e → s ≤ e
  | [], _, _, h => Nat.le_of_eq h
  | (_, n, _) :: _, s, _, h => Nat.le_trans (Nat.le_add_right s n) h.2.2.2.le
theorem Runs.snoc {n p : Nat} (hn : 1 ≤ n) : ∀ {l : List (Nat × Nat × Nat)} {s e : Nat}, Runs r arr s l e → Seg r arr e n → Runs r arr s (l ++ [(e, n, p)]) (e + n)
  | [], s, e, h, g => by
    have h : s = e := h
    subst h
    exact ⟨rfl, hn, g, rfl⟩
  | (_, _, _) :: _, _, _, h, g => ⟨h.1, h.2.1, h.2.2.1, h.2.2.2.snoc hn g⟩
theorem Runs.pw {f : Nat × Nat × Nat → Nat × Nat × Nat} (hf : ∀ a n p, ∃ q, f (a, n, p) = (a, n, q)) : ∀ {l : List (Nat × Nat × Nat)} {k s e : Nat}, Runs r arr s l e → Runs r arr s (l.modify k f) e
  | [], k, _, _, h => by rw [List.modify_nil]; exact h
  | (a, n, p) :: l, 0, s, e, h => by
    obtain ⟨q, hq⟩ := hf a n p
    rw [List.modify_zero_cons, hq]
    exact h
  | (a, n, p) :: l, k + 1, s, e, h => by
    rw [List.modify_succ_cons]
    exact ⟨h.1, h.2.1, h.2.2.1, h.2.2.2.pw hf⟩
theorem Runs.congr : ∀ {l : List (Nat × Nat × Nat)} {s e : Nat}, Runs r arr s l e → (∀ j, s ≤ j → j < e → arr'[j]? = arr[j]?) → Runs r arr' s l e
  | [], _, _, h, _ => h
  | (_, n, _) :: _, s, e, ⟨h1, h2, h3, h4⟩, k => by
    subst h1
    have := h4.le
    refine ⟨rfl, h2, ?_, h4.congr fun j hj he => k j (Nat.le_trans (Nat.le_add_right _ n) hj) he⟩
    unfold Seg
    rw [seg_congr (arr := arr) fun j hj => k _ (Nat.le_add_right _ _) (by omega)]
    exact h3
theorem Runs.merge {sa na pw sb nb q : Nat} : ∀ {l : List (Nat × Nat × Nat)} {i s e : Nat}, Runs r arr s l e → l[i]? = some (sa, na, pw) → l[i + 1]? = some (sb, nb, q) →
    ((sb = sa + na ∧ 1 ≤ na ∧ 1 ≤ nb ∧ sb + nb ≤ e) ∧ Seg r arr sa na ∧ Seg r arr sb nb) ∧ s ≤ sa ∧ ∀ arr' : Array Keyed, (∀ j, s ≤ j → j < e → j < sa ∨ sb + nb ≤ j → arr'[j]? = arr[j]?) → Seg r arr' sa (na + nb) → Runs r arr' s ((l.set i (sa, na + nb, pw)).eraseIdx (i + 1)) e
  | [], _, _, _, _, h1, _ => by cases h1
  | [_], 0, _, _, _, _, h2 => by cases h2
  | x :: y :: l, 0, s, e, h, h1, h2 => by
    cases h1; cases h2
    obtain ⟨rfl, g1, g2, rfl, g3, g4, g5⟩ := h
    refine ⟨⟨⟨rfl, g1, g3, g5.le⟩, g2, g4⟩, Nat.le_refl _, fun arr' k g => ⟨rfl, Nat.le_trans g1 (Nat.le_add_right _ _), g, ?_⟩⟩
    rw [← Nat.add_assoc]
    exact g5.congr fun j hj he => k j (by (first | lia | omega)) he (.inr hj)
  | (a, n, p) :: l, i + 1, s, e, h, h1, h2 => by
    obtain ⟨rfl, g1, g2, g3⟩ := h
    obtain ⟨k1, k2, k3⟩ := g3.merge (i := i) h1 h2
    refine ⟨k1, Nat.le_trans (Nat.le_add_right _ _) k2, fun arr' k g => ⟨rfl, g1, ?_, k3 arr' (fun j hj he ho => k j (Nat.le_trans (Nat.le_add_right _ _) hj) he ho) g⟩⟩
    unfold Seg
    rw [seg_congr (arr := arr) fun j hj => k _ (Nat.le_add_right _ _) (by have := g3.le; (first | lia | omega)) (.inl (by (first | lia | omega)))]
    exact g2
theorem ends_sorted {X1 X2 Y1 Y2 W : List Keyed} (hU : (X1 ++ X2).Pairwise (Le r)) (hV : (Y1 ++ Y2).Pairwise (Le r)) (h1 : ∀ u ∈ X1, ∀ v ∈ Y1 ++ Y2, Le r u v) (h2 : ∀ u ∈ X2, ∀ v ∈ Y2, Le r u v) (hW : W.Pairwise (Le r)) (pW : W.Perm (X2 ++ Y1)) :
    (X1 ++ (W ++ Y2)).Pairwise (Le r) ∧ (X1 ++ (W ++ Y2)).Perm ((X1 ++ X2) ++ (Y1 ++ Y2)) := by
  obtain ⟨u1, u2, u3⟩ := List.pairwise_append.mp hU
  obtain ⟨v1, v2, v3⟩ := List.pairwise_append.mp hV
  refine ⟨List.pairwise_append.mpr ⟨u1, List.pairwise_append.mpr ⟨hW, v2, fun x hx y hy => ?_⟩, fun x hx y hy => ?_⟩, ?_⟩
  · rcases List.mem_append.mp (pW.mem_iff.mp hx) with h | h
    · exact h2 x h y hy
    · exact v3 x h y hy
  · rcases List.mem_append.mp hy with h | h
    · rcases List.mem_append.mp (pW.mem_iff.mp h) with h | h
      · exact u3 x hx y h
      · exact h1 x hx y (List.mem_append_left _ h)
    · exact h1 x hx y (List.mem_append_right _ h)
  · rw [List.append_assoc X1, ← List.append_assoc X2]
    exact (pW.append_right _).append_left _
end
section
variable {prog : Program} {w : World} {A : Around} {E : Value → Shared → Prop} {s : Shared} {κ : SortKind} {r : Value → Int} {a₀ : Array Keyed} {st : SortSt}
theorem SOk.size (h : SOk κ a₀ st) : (arrOf st).size = a₀.size := h.perm.size_eq
theorem SOk.mem (h : SOk κ a₀ st) : AllIn a₀ (arrOf st) := fun x hx => h.perm.mem_iff.mp hx
theorem AllIn.extract {a₀ xs : Array Keyed} {i j : Nat} (h : AllIn a₀ xs) : AllIn a₀ (xs.extract i j) := fun y hy => by
  obtain ⟨k, hk, rfl⟩ := Array.mem_iff_getElem.mp hy
  rw [Array.getElem_extract]
  exact h _ (Array.getElem_mem _)
theorem to_end {sa na k : Nat} (hk : k ≤ na) : sa + k + (na - k) = sa + na := by rw [Nat.add_assoc, Nat.add_sub_cancel' hk]
theorem last_at {sa na k : Nat} (hk : k ≤ na) (h : 1 ≤ na) : sa + k + (na - k) - 1 = sa + (na - 1) := by rw [to_end hk, Nat.add_sub_assoc h]
theorem two_len {sa na k k' : Nat} (hk : k ≤ na) : sa + k + 0 + (na - k + k') = sa + na + k' := by rw [Nat.add_zero, ← Nat.add_assoc, to_end hk]
theorem not_in {sa n j : Nat} (h : sa + n ≤ j) : ¬ j < sa ∧ ¬ j < sa + n := ⟨Nat.not_lt.mpr (Nat.le_trans (Nat.le_add_right _ _) h), Nat.not_lt.mpr h⟩
theorem ext_size {a : Array Keyed} {i n : Nat} (h : i + n ≤ a.size) : (a.extract i (i + n)).size = n := by rw [Array.size_extract, Nat.min_eq_left h, Nat.add_sub_cancel_left]
theorem mergeAt_ok {i e : Nat} {Q : Bool → SortSt → Prop} (H : Asks prog w A s κ r a₀) (B : SOk κ a₀ st) (hr : Runs r (arrOf st) 0 (pendingOf st).toList e) (he : e ≤ a₀.size) (hi : i + 1 < (pendingOf st).size)
    (h : ∀ st', SOk κ a₀ st' → Runs r (arrOf st') 0 (pendingOf st').toList e → (∀ j, e ≤ j → (arrOf st')[j]? = (arrOf st)[j]?) → (pendingOf st').size + 1 = (pendingOf st).size → Q true st') : wpS (model prog w) A E s (mergeAt' i) Q st := by
  obtain ⟨⟨sa, na, pw⟩, h1⟩ : ∃ x, (pendingOf st)[i]? = some x := ⟨_, getElem?_pos (pendingOf st) i (Nat.lt_of_succ_lt hi)⟩
  obtain ⟨⟨sb, nb, q⟩, h2⟩ : ∃ x, (pendingOf st)[i + 1]? = some x := ⟨_, getElem?_pos (pendingOf st) (i + 1) hi⟩
  obtain ⟨⟨⟨hsb, hna, hnb, hle⟩, gU, gV⟩, -, hr'⟩ := hr.merge (by rw [Array.getElem?_toList]; exact h1) (by rw [Array.getElem?_toList]; exact h2)
  subst hsb
  refine wpS_bind (wpS_get ?_)
  rw [h1, h2]
  clear h1 h2 hr
  refine wpS_bind (wpS_modify ?_)
  have hp : (((pendingOf st).setIfInBounds i (sa, na + nb, pw)).eraseIdxIfInBounds (i + 1)).toList = ((pendingOf st).toList.set i (sa, na + nb, pw)).eraseIdx (i + 1) := by
    rw [Array.toList_eraseIdxIfInBounds, Array.toList_setIfInBounds]
  have hps : (((pendingOf st).setIfInBounds i (sa, na + nb, pw)).eraseIdxIfInBounds (i + 1)).size + 1 = (pendingOf st).size := by
    rw [← Array.length_toList, hp, List.length_eraseIdx_of_lt (by rw [List.length_set, Array.length_toList]; exact hi), List.length_set, Array.length_toList]
    exact Nat.sub_add_cancel (Nat.lt_of_le_of_lt (Nat.zero_le _) hi)
  rw [← hp] at hr'
  clear hp
  generalize ((pendingOf st).setIfInBounds i (sa, na + nb, pw)).eraseIdxIfInBounds (i + 1) = p at *
  have B1 : SOk κ a₀ (setPending st p) := ⟨B.kind, B.failed, B.perm⟩
  have Bm := B.mem
  have zb : sa + na + nb ≤ (arrOf st).size := B.size ▸ Nat.le_trans hle he
  have za : sa + na ≤ (arrOf st).size := Nat.le_trans (Nat.le_add_right _ _) zb
  have zx : sa + na < (arrOf st).size := Nat.lt_of_lt_of_le (Nat.lt_add_of_pos_right hnb) zb
  have wU := gU.mono za
  have wV := gV.mono zb
  have put : ∀ (st' : SortSt) (W : List Keyed), LikeA κ a₀ (setPending st p) st' → ∀ arr', Splice (arrOf st) arr' sa W → W.length = na + nb → W.Pairwise (Le r) → W.Perm (seg (arrOf st) sa (na + nb)) → Q (failedOf st').isNone (setArr st' arr') := by
    intro st' W L arr' sp len2 w1 w2
    have hl : sa + W.length ≤ (arrOf st).size := by rw [len2, ← Nat.add_assoc]; exact zb
    rw [L.1.2]
    refine h _ ⟨L.1.1, L.1.2, (sp.perm (len2 ▸ w2)).trans B.perm⟩ ?_ (fun j hj => ?_) (by show (pendingOf st').size + 1 = _; rw [L.2.1]; exact hps)
    · show Runs r arr' 0 (pendingOf st').toList e
      rw [L.2.1]
      refine hr' _ (fun j _ _ ho => ?_) ?_
      · rw [sp.at hl, len2]
        rcases ho with ho | ho
        · rw [if_pos ho]
        · have n := not_in (Nat.add_assoc sa na nb ▸ ho)
          rw [if_neg n.1, if_neg n.2]
      · unfold Seg
        rw [← len2, sp.seg hl]
        exact w1
    · have n := not_in (Nat.add_assoc sa na nb ▸ Nat.le_trans hle hj)
      show arr'[j]? = _
      rw [sp.at hl, len2, if_neg n.1, if_neg n.2]
  have same : Seg r (arrOf st) sa (na + nb) → Q true (setPending st p) := fun g => h _ B1 (hr' _ (fun _ _ _ _ => rfl) g) (fun _ _ => rfl) hps
  clear h hr' hps he hle B hi
  refine wpS_bind (s_elem Bm zx fun x hx ex => wpS_bind (gallop_ok H B1 hx Bm za hna wU fun k G => ?_))
  have hk := G.le
  have cross : ∀ u ∈ seg (arrOf st) sa k, ∀ v ∈ seg (arrOf st) (sa + na) nb, Le r u v := fun u hu v hv => by
    obtain ⟨j, hj, ej⟩ := seg_mem hu
    obtain ⟨j', hj', ej'⟩ := seg_mem hv
    have q1 : rkAt r (arrOf st) (sa + j) ≤ r x.1 := G.a j hj
    have q2 : rkAt r (arrOf st) (sa + na + 0) ≤ rkAt r (arrOf st) (sa + na + j') := wV 0 j' (Nat.zero_le _) hj'
    rw [rkAt_eq ej] at q1
    rw [rkAt_eq ej', rkAt_eq (show (arrOf st)[sa + na + 0]? = some x from ex)] at q2
    exact Int.le_trans q1 q2
  refine s_if (fun c1 => wpS_pure (same ?_)) fun c1 => ?_
  · have ek : na - k = 0 := eq_of_beq c1
    have ek : na = k := Nat.le_antisymm (Nat.le_of_sub_eq_zero ek) hk
    subst ek
    unfold Seg
    rw [seg_add]
    exact List.pairwise_append.mpr ⟨gU, gV, cross⟩
  have e1 : 1 ≤ na - k := Nat.one_le_iff_ne_zero.mpr (ne_beq c1)
  have el := last_at (sa := sa) hk hna
  have zy : sa + (na - 1) < (arrOf st).size := Nat.lt_of_lt_of_le (Nat.add_lt_add_left (Nat.sub_lt hna Nat.one_pos) sa) za
  refine wpS_bind (s_elem Bm (el ▸ zy) fun y hy ey => wpS_bind (gallop_ok H B1 hy Bm zb (Nat.sub_lt hnb Nat.one_pos) wV fun k' G' => ?_))
  have hk' := G'.le
  have cross2 : ∀ u ∈ seg (arrOf st) sa na, ∀ v ∈ seg (arrOf st) (sa + na + k') (nb - k'), Le r u v := fun u hu v hv => by
    obtain ⟨j, hj, ej⟩ := seg_mem hu
    obtain ⟨j', hj', ej'⟩ := seg_mem hv
    have q1 : rkAt r (arrOf st) (sa + j) ≤ rkAt r (arrOf st) (sa + (na - 1)) := wU j (na - 1) (Nat.le_sub_one_of_lt hj) (Nat.sub_lt hna Nat.one_pos)
    have q2 := Int.not_lt.mp (G'.z (k' + j') (Nat.le_add_right _ _) (Nat.add_lt_of_lt_sub' hj'))
    rw [rkAt_eq ej, rkAt_eq (el ▸ ey)] at q1
    rw [← Nat.add_assoc, rkAt_eq ej'] at q2
    exact Int.le_trans q1 q2
  refine s_if (fun c2 => wpS_pure (same ?_)) fun c2 => ?_
  · have ek : k' = 0 := eq_of_beq c2
    subst ek
    unfold Seg
    rw [seg_add]
    exact List.pairwise_append.mpr ⟨gU, gV, cross2⟩
  have e2 : 1 ≤ k' := Nat.one_le_iff_ne_zero.mpr (ne_beq c2)
  clear same
  have te := to_end (sa := sa) hk
  have zX : sa + k + (na - k) ≤ (arrOf st).size := te ▸ za
  have zY : sa + na + k' ≤ (arrOf st).size := Nat.le_trans (Nat.add_le_add_left hk' _) zb
  have sX : ((arrOf st).extract (sa + k) (sa + na)).toList = seg (arrOf st) (sa + k) (na - k) := by rw [seg_extract, Nat.add_sub_add_left]
  have sY : ((arrOf st).extract (sa + na) (sa + na + k')).toList = seg (arrOf st) (sa + na) k' := by rw [seg_extract, Nat.add_sub_cancel_left]
  have uU : seg (arrOf st) sa na = seg (arrOf st) sa k ++ seg (arrOf st) (sa + k) (na - k) := seg_split hk
  have uV : seg (arrOf st) (sa + na) nb = seg (arrOf st) (sa + na) k' ++ seg (arrOf st) (sa + na + k') (nb - k') := seg_split hk'
  have pU := gU
  have pV := gV
  unfold Seg at pU pV
  rw [uU] at pU
  rw [uV] at pV
  have M : MM (Le r) [] ((arrOf st).extract (sa + k) (sa + na)).toList ((arrOf st).extract (sa + na) (sa + na + k')).toList (seg (arrOf st) (sa + k) (na - k) ++ seg (arrOf st) (sa + na) k') := by
    rw [sX, sY]
    exact ⟨(List.pairwise_append.mp pU).2.1, (List.pairwise_append.mp pV).1, List.Perm.refl _⟩
  have fin : ∀ (out : Array Keyed) (st' : SortSt), Good r (seg (arrOf st) (sa + k) (na - k) ++ seg (arrOf st) (sa + na) k') out → LikeA κ a₀ (setPending st p) st' →
      Q (failedOf st').isNone (setArr st' (out.toList.zipIdx.foldl (fun a x => a.setIfInBounds (sa + k + x.snd) x.fst) (arrOf st'))) := by
    intro out st' o L
    have S := ends_sorted pU pV (uV ▸ cross) (fun u hu v hv => cross2 u (uU ▸ List.mem_append_right _ hu) v hv) o.1 o.2
    have len : out.toList.length = (na - k) + k' := by rw [o.2.length_eq, List.length_append, seg_len zX, seg_len zY]
    have len2 : (seg (arrOf st) sa k ++ (out.toList ++ seg (arrOf st) (sa + na + k') (nb - k'))).length = na + nb := by
      rw [S.2.length_eq, ← uU, ← uV, List.length_append, seg_len za, seg_len zb]
    have ea : arrOf st' = arrOf st := L.2.2
    refine put st' _ L _ ?_ len2 S.1 (by rw [seg_add, uU, uV]; exact S.2)
    unfold Splice
    have t2 : (arrOf st).toList.drop (sa + k + 0 + out.toList.length) = seg (arrOf st) (sa + na + k') (nb - k') ++ (arrOf st).toList.drop (sa + (na + nb)) := by
      rw [len, two_len hk, seg_rest (n := nb - k'), to_end hk', Nat.add_assoc sa na nb]
    rw [len2, ea, write_list out.toList (arrOf st) 0 (sa + k) (by rw [len, two_len hk]; exact zY), t2, Nat.add_zero, List.take_add]
    simp only [List.append_assoc]
    rfl
  have s1 : ((arrOf st).extract (sa + k) (sa + na)).size = na - k := te ▸ ext_size zX
  have s2 : ((arrOf st).extract (sa + na) (sa + na + k')).size = k' := ext_size zY
  have hf : ∀ v, ((arrOf st).extract (sa + na) (sa + na + k'))[0]? = some v → ∀ u ∈ (arrOf st).extract (sa + k) (sa + na), Le r v u := fun v hv u hu => by
    rw [← Array.getElem?_toList, sY, seg_get, if_pos (show 0 < k' from e2)] at hv
    rw [Array.mem_def, sX] at hu
    obtain ⟨j, hj, ej⟩ := seg_mem hu
    have q1 := Int.le_of_lt (Int.not_le.mp (G.z (k + j) (Nat.le_add_right _ _) (Nat.add_lt_of_lt_sub' hj)))
    rw [← Nat.add_assoc, rkAt_eq ej] at q1
    cases (show (arrOf st)[sa + na]? = some v from hv).symm.trans ex
    exact q1
  have hl : ∀ v ∈ (arrOf st).extract (sa + na) (sa + na + k'), ∀ u, ((arrOf st).extract (sa + k) (sa + na))[((arrOf st).extract (sa + k) (sa + na)).size - 1]? = some u → Le r v u := fun v hv u hu => by
    rw [Array.mem_def, sY] at hv
    obtain ⟨j, hj, ej⟩ := seg_mem hv
    rw [← Array.getElem?_toList, sX, seg_get, s1, if_pos (Nat.sub_lt e1 Nat.one_pos), ← Nat.add_sub_assoc e1] at hu
    cases hu.symm.trans ey
    have q1 := Int.le_of_lt (G'.a j hj)
    rw [rkAt_eq ej] at q1
    exact q1
  have f1 := s1 ▸ e1
  have f2 := s2 ▸ e2
  clear cross cross2 sX sY uU uV pU pV wU wV put s1 s2 te zX zY el zy gU gV
  refine s_if (fun _ => ?_) fun _ => ?_
  · exact wpS_bind (mergeLo_ok H B1 Bm.extract Bm.extract M f1 f2 hf hl fun out st' ho B' => wpS_bind (wpS_modify (wpS_bind (wpS_get (wpS_pure (fin out st' ho B'))))))
  · exact wpS_bind (mergeHi_ok H B1 Bm.extract Bm.extract M f1 f2 hf hl fun out st' ho B' => wpS_bind (wpS_modify (wpS_bind (wpS_get (wpS_pure (fin out st' ho B'))))))
end
end Mine.R
namespace Mine.R
open PySem PySem.W PySem.Calls PyProof.Rows

abbrev Mo (r : Value → Int) (arr : Array Keyed) (lo n : Nat) : Prop := Mono (fun j => rkAt r arr (lo + j)) n
theorem Mono.less {f : Nat → Int} {n m : Nat} (h : Mono f n) (hm : m ≤ n) : Mono f m := fun i j hij hj => h i j hij (Nat.lt_of_lt_of_le hj hm)
theorem Mono.one {f : Nat → Int} : Mono f 1 := fun i j hij hj => by
  have : i = j := by omega
  rw [this]; exact Int.le_refl _
theorem Mono.snoc {f : Nat → Int} {n : Nat} (h : Mono f n) (h1 : 1 ≤ n) (k : f (n - 1) ≤ f n) : Mono f (n + 1) := fun i j hij hj => by
  rcases Nat.lt_or_eq_of_le (Nat.le_of_lt_succ hj) with hj | rfl
  · exact h i j hij hj
  · rcases Nat.lt_or_eq_of_le hij with hi | rfl
    · exact Int.le_trans (h i (j - 1) (by omega) (by omega)) k
    · exact Int.le_refl _
section
variable {r : Value → Int} {arr : Array Keyed} {lo n : Nat}
theorem seg_of (h : Mo r arr lo n) (hn : lo + n ≤ arr.size) : Seg r arr lo n := by
  refine List.pairwise_iff_getElem.mpr fun i j hi hj hij => ?_
  have l := seg_len hn
  have g : ∀ k (hk : k < (seg arr lo n).length), rkAt r arr (lo + k) = r (seg arr lo n)[k].1 := fun k hk => by
    refine rkAt_eq ?_
    have := seg_get (arr := arr) (lo := lo) (n := n) k
    rw [if_pos (by omega)] at this
    rw [← this]
    exact List.getElem?_eq_getElem hk
  show r _ ≤ r _
  rw [← g i hi, ← g j hj]
  exact h i j (Nat.le_of_lt hij) (by omega)
theorem rkAt_congr {xs ys : Array Keyed} {i j : Nat} (h : xs[i]? = ys[j]?) : rkAt r xs i = rkAt r ys j := by unfold rkAt; rw [h]
theorem rk_mirror {xs : Array Keyed} {i j : Nat} (hj : j ≤ xs.size) (k : Nat) : rkAt r (mirror xs i j ((j - i) / 2)) k = if i ≤ k ∧ k < j then rkAt r xs (i + j - 1 - k) else rkAt r xs k := by
  have e := getElem?_mirror_all (i := i) hj k
  split at e
  · rw [if_pos ‹_›]; exact rkAt_congr e
  · rw [if_neg ‹_›]; exact rkAt_congr e
theorem ins_mono {f g : Nat → Int} {k l : Nat} (M : Mono f k) (G : Gal false f (f k) k l l) (hg : ∀ j, g j = if j = l then f k else if l < j ∧ j ≤ k then f (j - 1) else f j) : Mono g (k + 1) := by
  intro i j hij hj
  rw [hg, hg]
  have hl := G.le
  by_cases h1 : i = l
  · rw [if_pos h1]
    by_cases h2 : j = l
    · rw [if_pos h2]; exact Int.le_refl _
    · rw [if_neg h2, if_pos (by (first | lia | omega))]
      exact Int.le_of_lt (Int.not_le.mp (G.z (j - 1) (by (first | lia | omega)) (by (first | lia | omega))))
  · rw [if_neg h1]
    by_cases h3 : i < l
    · rw [if_neg (by (first | lia | omega))]
      by_cases h2 : j = l
      · rw [if_pos h2]; exact G.a i h3
      · rw [if_neg h2]
        split
        · exact M i (j - 1) (by (first | lia | omega)) (by (first | lia | omega))
        · exact M i j hij (by (first | lia | omega))
    · rw [if_pos (by (first | lia | omega)), if_neg (by (first | lia | omega)), if_pos (by (first | lia | omega))]
      exact M (i - 1) (j - 1) (by (first | lia | omega)) (by (first | lia | omega))
end
section
variable {prog : Program} {w : World} {A : Around} {E : Value → Shared → Prop} {s : Shared} {κ : SortKind} {r : Value → Int} {a₀ : Array Keyed} {st st₀ : SortSt}
structure Keep (κ : SortKind) (a₀ : Array Keyed) (st₀ : SortSt) (lo hi : Nat) (st : SortSt) : Prop where
  ok : SOk κ a₀ st
  pend : pendingOf st = pendingOf st₀
  same : ∀ j, j < lo ∨ hi ≤ j → (arrOf st)[j]? = (arrOf st₀)[j]?
theorem Keep.refl {lo hi : Nat} (B : SOk κ a₀ st) : Keep κ a₀ st lo hi st := ⟨B, rfl, fun _ _ => rfl⟩
theorem Keep.arr {lo hi : Nat} {xs : Array Keyed} (K : Keep κ a₀ st₀ lo hi st) (hp : xs.Perm (arrOf st)) (hs : ∀ j, j < lo ∨ hi ≤ j → xs[j]? = (arrOf st)[j]?) : Keep κ a₀ st₀ lo hi (setArr st xs) :=
  ⟨⟨K.ok.kind, K.ok.failed, hp.trans K.ok.perm⟩, K.pend, fun j hj => (hs j hj).trans (K.same j hj)⟩
theorem s_ltAt {i j : Nat} {Q : Option Bool → SortSt → Prop} (H : Asks prog w A s κ r a₀) (B : SOk κ a₀ st) (hi : i < a₀.size) (hj : j < a₀.size) (h : Q (some (decide (rkAt r (arrOf st) i < rkAt r (arrOf st) j))) st) : wpS (model prog w) A E s (ltAt' i j) Q st := by
  rw [ltAt'_eq]
  refine wpS_bind (wpS_get ?_)
  refine wpS_bind (s_elem B.mem (by rw [B.size]; exact hi) fun x hx ex => ?_)
  refine wpS_bind (s_elem B.mem (by rw [B.size]; exact hj) fun y hy ey => s_lt H B hx hy ?_)
  rw [rkAt_eq ex, rkAt_eq ey] at h
  exact h
theorem mid2 {l o x k : Nat} (h : ¬ l ≥ o) (hd : o - l ≤ k - x) (hx : x < k) : (l + o) / 2 < o ∧ o - ((l + o) / 2 + 1) ≤ k - (x + 1) ∧ (l + o) / 2 - l ≤ k - (x + 1) ∧ l ≤ (l + o) / 2 := by
  have e : l + o = (o - l) + l * 2 := by rw [Nat.mul_two, ← Nat.add_assoc, Nat.sub_add_cancel (Nat.le_of_lt (Nat.lt_of_not_le h)), Nat.add_comm]
  have e2 : (l + o) / 2 = l + (o - l) / 2 := by rw [e, Nat.add_mul_div_right _ _ (by decide), Nat.add_comm]
  have m := mid_lt h hd hx
  rw [e2]
  exact ⟨m.1, m.2.1, m.2.2, Nat.le_add_right _ _⟩
theorem bubble_at {xs : Array Keyed} {lo k o : Nat} (hz : lo + k < xs.size) (ho : o ≤ k) (j : Nat) : (bubble xs (lo + k) (lo + k - (lo + o)))[lo + j]? = if j = o then xs[lo + k]? else if o < j ∧ j ≤ k then xs[lo + (j - 1)]? else xs[lo + j]? := by
  rw [getElem?_bubble hz _ (Nat.sub_le _ _), Nat.sub_sub_self (Nat.add_le_add_left ho lo)]
  by_cases h1 : j = o
  · rw [if_pos h1, if_pos (congrArg _ h1)]
  · rw [if_neg h1, if_neg (fun e => h1 (Nat.add_left_cancel e))]
    by_cases h2 : o < j ∧ j ≤ k
    · rw [if_pos h2, if_pos ⟨Nat.add_lt_add_left h2.1 lo, Nat.add_le_add_left h2.2 lo⟩, Nat.add_sub_assoc (Nat.one_le_of_lt h2.1)]
    · rw [if_neg h2, if_neg (fun e => h2 ⟨Nat.lt_of_add_lt_add_left e.1, Nat.le_of_add_le_add_left e.2⟩)]
theorem out_of {lo o k n j : Nat} (ho : o ≤ k) (hk : k < n) (hj : j < lo ∨ lo + n ≤ j) : j ≠ lo + o ∧ ¬ (lo + o < j ∧ j ≤ lo + k) := by omega
theorem bubble_out {xs : Array Keyed} {lo k o n j : Nat} (hz : lo + k < xs.size) (ho : o ≤ k) (hk : k < n) (hj : j < lo ∨ lo + n ≤ j) : (bubble xs (lo + k) (lo + k - (lo + o)))[j]? = xs[j]? := by
  have q := out_of ho hk hj
  rw [getElem?_bubble hz _ (Nat.sub_le _ _), Nat.sub_sub_self (Nat.add_le_add_left ho lo), if_neg q.1, if_neg q.2]
theorem rk_bubble {xs : Array Keyed} {lo k o : Nat} (hz : lo + k < xs.size) (ho : o ≤ k) (j : Nat) : rkAt r (bubble xs (lo + k) (lo + k - (lo + o))) (lo + j) = if j = o then rkAt r xs (lo + k) else if o < j ∧ j ≤ k then rkAt r xs (lo + (j - 1)) else rkAt r xs (lo + j) := by
  have e := bubble_at hz ho j
  split at e
  · rw [if_pos ‹_›]; exact rkAt_congr e
  · rw [if_neg ‹_›]
    split at e
    · rw [if_pos ‹_›]; exact rkAt_congr e
    · rw [if_neg ‹_›]; exact rkAt_congr e
noncomputable def OutX {O X : Type} (J K : X → SortSt → Prop) : ForInStep (Option O × X) → SortSt → Prop
  | .done (none, x), st => K x st
  | .yield (none, x), st => J x st
  | _, _ => False
theorem s_loopX {O X α : Type} {m n : Nat} {f : Nat → Option O × X → StateT SortSt Sem (ForInStep (Option O × X))} {F : Option O × X → StateT SortSt Sem α} {Q : α → SortSt → Prop} {x : X} (J : Nat → X → SortSt → Prop) (K : X → SortSt → Prop)
    (step : ∀ i x st', m ≤ i → i < n → J i x st' → wpS (model prog w) A E s (f i (none, x)) (OutX (J (i + 1)) K) st') (fin : ∀ x st', J (max m n) x st' → K x st') (post : ∀ x st', K x st' → wpS (model prog w) A E s (F (none, x)) Q st')
    (h : J m x st) : wpS (model prog w) A E s (forIn [m:n] (none, x) f >>= F) Q st := by
  refine wpS_bind (wpS_mono (wpS_forRange (I := fun i c st' => OutX (J i) K (.yield c) st') (Q := fun c st' => OutX (J 0) K (.done c) st') ?_ ?_ h) ?_)
  · rintro i ⟨_ | o, x⟩ st' hm hi j
    · refine wpS_mono (step i x st' hm hi j) ?_
      rintro (⟨_ | o, c⟩ | ⟨_ | o, c⟩) st2 q
      · exact q
      · exact q.elim
      · exact q
      · exact q.elim
    · exact j.elim
  · rintro ⟨_ | o, x⟩ st' j
    · exact fin x st' j
    · exact j.elim
  · rintro ⟨_ | o, x⟩ st' q
    · exact post x st' q
    · exact q.elim
theorem met2 {o l n : Nat} (h : o - l ≤ n - max 0 n) (hl : l ≤ o) : o = l := Nat.le_antisymm (met_of h) hl
theorem binary_ok {lo n ok : Nat} {Q : Bool → SortSt → Prop} (H : Asks prog w A s κ r a₀) (B : SOk κ a₀ st) (hn : lo + n ≤ a₀.size) (hs : Mo r (arrOf st) lo ok) (h : ∀ st', Keep κ a₀ st lo (lo + n) st' → Mo r (arrOf st') lo n → Q true st') : wpS (model prog w) A E s (binarySort' lo n ok) Q st := by
  rw [binarySort'_eq]
  have m0 : Mo r (arrOf st) lo (max ok 1) := by
    rcases Nat.le_total ok 1 with h | h
    · rw [Nat.max_eq_right h]; exact .one
    · rw [Nat.max_eq_left h]; exact hs
  refine s_loopX (J := fun k _ st' => Keep κ a₀ st lo (lo + n) st' ∧ Mo r (arrOf st') lo k) (K := fun _ st' => Keep κ a₀ st lo (lo + n) st' ∧ Mo r (arrOf st') lo n) ?_ (fun _ _ hh => ⟨hh.1, hh.2.less (Nat.le_max_right _ _)⟩) (fun _ st' q => wpS_pure (h _ q.1 q.2)) ⟨Keep.refl B, m0⟩
  intro k _ st' _ hk p
  have hk' : lo + k < a₀.size := Nat.lt_of_lt_of_le (Nat.add_lt_add_left hk lo) hn
  refine s_loop2 (J := fun x l o => Gal false (fun j => rkAt r (arrOf st') (lo + j)) (rkAt r (arrOf st') (lo + k)) k l o ∧ o - l ≤ k - x ∧ l ≤ o)
    (K := fun l o => Gal false (fun j => rkAt r (arrOf st') (lo + j)) (rkAt r (arrOf st') (lo + k)) k l o ∧ o = l) ?_ (fun l o q => ⟨q.1, met2 q.2.1 q.2.2⟩) ?_ ⟨⟨fun j hj => absurd hj (Nat.not_lt_zero j), fun j h1 h2 => absurd h1 (Nat.not_le_of_lt h2), Nat.le_refl _⟩, Nat.le_refl _, Nat.zero_le _⟩
  · intro x l o hx q
    refine s_if (fun hlo => wpS_pure ⟨rfl, q.1, Nat.le_antisymm hlo q.2.2⟩) fun hlr => ?_
    have m := mid2 hlr q.2.1 hx
    have m2 := Nat.lt_of_lt_of_le m.1 q.1.le
    exact wpS_bind (s_ltAt H p.1.ok hk' (Nat.lt_trans (Nat.add_lt_add_left m2 lo) hk') (s_if (fun c0 => wpS_pure ⟨rfl, gal_hi p.2 q.1 m.1 (fun q => absurd (of_decide_eq_true c0) (Int.not_lt.mpr q)), m.2.2.1, m.2.2.2⟩) fun c0 => wpS_pure ⟨rfl, gal_lo p.2 q.1 m.1 (ge_dec c0), m.2.1, m.1⟩))
  · intro l o q
    have hz : lo + k < (arrOf st').size := by rw [p.1.ok.size]; exact hk'
    have G := q.1
    rw [q.2] at G
    refine wpS_bind (wpS_modify (wpS_pure ⟨p.1.arr (bubble_perm _ _ _) fun j hj => bubble_out hz G.le hk hj, ins_mono p.2 G (rk_bubble hz G.le)⟩))
end
end Mine.R
namespace Mine.R
open PySem PySem.W PySem.Calls PyProof.Rows

noncomputable def Anti (f : Nat → Int) (n : Nat) : Prop := ∀ i j, i ≤ j → j < n → f j ≤ f i
noncomputable def Flat (f : Nat → Int) (m n : Nat) : Prop := ∀ j, m ≤ j → j < n → f j = f (n - 1)
theorem Anti.snoc {f : Nat → Int} {n : Nat} (h : Anti f n) (h1 : 1 ≤ n) (k : f n ≤ f (n - 1)) : Anti f (n + 1) := fun i j hij hj => by
  rcases Nat.lt_or_eq_of_le (Nat.le_of_lt_succ hj) with hj | rfl
  · exact h i j hij hj
  · rcases Nat.lt_or_eq_of_le hij with hi | rfl
    · exact Int.le_trans k (h i (j - 1) (by omega) (by omega))
    · exact Int.le_refl _
theorem Flat.anti {f : Nat → Int} {n : Nat} (h : Flat f 0 n) : Anti f n := fun i j hij hj => by
  rw [h i (Nat.zero_le _) (Nat.lt_of_le_of_lt hij hj), h j (Nat.zero_le _) hj]; exact Int.le_refl _
theorem Flat.one {f : Nat → Int} {n : Nat} : Flat f n (n + 1) := fun j h1 h2 => by
  rw [show j = n by omega, Nat.add_sub_cancel]
theorem Flat.snoc {f : Nat → Int} {m n : Nat} (h : Flat f m n) (e : f n = f (n - 1)) : Flat f m (n + 1) := fun j h1 h2 => by
  rw [Nat.add_sub_cancel]
  rcases Nat.lt_or_eq_of_le (Nat.le_of_lt_succ h2) with h2 | rfl
  · rw [h j h1 h2, e]
  · rfl
section
variable {prog : Program} {w : World} {A : Around} {E : Value → Shared → Prop} {s : Shared} {κ : SortKind} {r : Value → Int} {a₀ : Array Keyed} {st st₀ : SortSt}
noncomputable def rks (r : Value → Int) (st : SortSt) (lo : Nat) : Nat → Int := fun j => rkAt r (arrOf st) (lo + j)
theorem idx {lo m n j : Nat} (h1 : m ≤ j) (h2 : j < n) : lo + m + (lo + n) - 1 - (lo + j) = lo + (m + n - 1 - j) ∧ m ≤ m + n - 1 - j ∧ m + n - 1 - j < n := by
  obtain ⟨d, rfl⟩ := Nat.exists_eq_add_of_le h1
  obtain ⟨e, rfl⟩ := Nat.exists_eq_add_of_lt h2
  have k1 : m + (m + d + e + 1) - 1 - (m + d) = m + e := Nat.sub_eq_of_eq_add (show m + (m + d + e) = m + e + (m + d) by (first | lia | omega))
  have k2 : lo + m + (lo + (m + d + e + 1)) - 1 - (lo + (m + d)) = lo + (m + e) := Nat.sub_eq_of_eq_add (show lo + m + (lo + (m + d + e)) = lo + (m + e) + (lo + (m + d)) by (first | lia | omega))
  rw [k1, k2]
  exact ⟨rfl, Nat.le_add_right _ _, by (first | lia | omega)⟩
theorem rev_seg {lo hi m n : Nat} {Q : Unit → SortSt → Prop} (K : Keep κ a₀ st₀ lo hi st) (hn : lo + n ≤ hi) (hz : lo + n ≤ a₀.size)
    (h : ∀ st', Keep κ a₀ st₀ lo hi st' → (∀ j, rks r st' lo j = if m ≤ j ∧ j < n then rks r st lo (m + n - 1 - j) else rks r st lo j) → Q () st') : wpS (model prog w) A E s (reverseSlice' (lo + m) (lo + n)) Q st := by
  have hj : lo + n ≤ (arrOf st).size := by rw [K.ok.size]; exact hz
  refine wpS_reverse (h _ (K.arr (mirror_perm _ _ _ _) fun k hk => ?_) fun j => ?_)
  · rw [getElem?_mirror_all hj, if_neg]
    exact fun q => hk.elim (fun a => Nat.not_lt.mpr (Nat.le_trans (Nat.le_add_right lo m) q.1) a) fun a => Nat.not_lt.mpr (Nat.le_trans hn a) q.2
  · refine (rk_mirror hj (lo + j)).trans ?_
    by_cases c : m ≤ j ∧ j < n
    · rw [if_pos c, if_pos ⟨Nat.add_le_add_left c.1 lo, Nat.add_lt_add_left c.2 lo⟩, (idx c.1 c.2).1]; rfl
    · rw [if_neg c, if_neg fun q => c ⟨Nat.le_of_add_le_add_left q.1, Nat.lt_of_add_lt_add_left q.2⟩]; rfl
theorem rev_flat {lo hi n q : Nat} {Q : Unit → SortSt → Prop} (K : Keep κ a₀ st₀ lo hi st) (hn : lo + n ≤ hi) (hz : lo + n ≤ a₀.size) (hq : q + 1 ≤ n) (F : Flat (rks r st lo) (n - 1 - q) n)
    (h : ∀ st', Keep κ a₀ st₀ lo hi st' → rks r st' lo = rks r st lo → Q () st') : wpS (model prog w) A E s (reverseSlice' (lo + n - (q + 1)) (lo + n)) Q st := by
  rw [Nat.sub_sub, Nat.add_comm 1 q] at F
  rw [Nat.add_sub_assoc hq]
  refine rev_seg (r := r) K hn hz fun st' K' g => h st' K' (funext fun j => ?_)
  rw [g]
  split
  · rename_i c
    have i := idx (lo := lo) c.1 c.2
    rw [F j c.1 c.2, F _ i.2.1 i.2.2]
  · rfl
theorem anti_idx {n i j : Nat} (hij : i ≤ j) (hj : j < n) : 0 + n - 1 - j ≤ 0 + n - 1 - i ∧ 0 + n - 1 - i < n ∧ i < n := by
  rw [Nat.zero_add]
  have h0 := Nat.lt_of_le_of_lt (Nat.zero_le j) hj
  exact ⟨Nat.sub_le_sub_left hij _, Nat.lt_of_le_of_lt (Nat.sub_le _ _) (Nat.sub_lt h0 Nat.one_pos), Nat.lt_of_le_of_lt hij hj⟩
theorem rev_all {lo hi n : Nat} {Q : Unit → SortSt → Prop} (K : Keep κ a₀ st₀ lo hi st) (hn : lo + n ≤ hi) (hz : lo + n ≤ a₀.size) (F : Anti (rks r st lo) n)
    (h : ∀ st', Keep κ a₀ st₀ lo hi st' → Mono (rks r st' lo) n → Q () st') : wpS (model prog w) A E s (reverseSlice' lo (lo + n)) Q st := by
  refine rev_seg (r := r) (m := 0) K hn hz fun st' K' g => h st' K' fun i j hij hj => ?_
  have c := anti_idx hij hj
  rw [g, g, if_pos ⟨Nat.zero_le _, c.2.2⟩, if_pos ⟨Nat.zero_le _, hj⟩]
  exact F _ _ c.1 c.2.1
theorem s_jpP {α β : Type} {F : β → StateT SortSt Sem α} {m : StateT SortSt Sem α} {Q : α → SortSt → Prop} (P : SortSt → Prop) (hF : ∀ st', P st' → ∀ x, wpS (model prog w) A E s (F x) Q st')
    (h : (∀ st', P st' → ∀ x, wpS (model prog w) A E s (F x) Q st') → wpS (model prog w) A E s m Q st) : wpS (model prog w) A E s m Q st := h hF
theorem ask_at {lo n i j : Nat} {Q : Option Bool → SortSt → Prop} (H : Asks prog w A s κ r a₀) (B : SOk κ a₀ st) (hn : lo + n ≤ a₀.size) (hi : i < n) (hj : j < n) {x y : Nat} (ex : x = lo + i) (ey : y = lo + j) (h : Q (some (decide (rks r st lo i < rks r st lo j))) st) : wpS (model prog w) A E s (ltAt' x y) Q st := by
  subst ex ey
  exact s_ltAt H B (Nat.lt_of_lt_of_le (Nat.add_lt_add_left hi lo) hn) (Nat.lt_of_lt_of_le (Nat.add_lt_add_left hj lo) hn) h
theorem sub_at {lo n : Nat} (h : 1 ≤ n) : lo + n - 1 = lo + (n - 1) := Nat.add_sub_assoc h lo
theorem count_ok {lo nrem : Nat} {Q : Option Nat → SortSt → Prop} (H : Asks prog w A s κ r a₀) (B : SOk κ a₀ st) (hn : lo + nrem ≤ a₀.size) (h1 : 1 ≤ nrem) (h : ∀ n st', 1 ≤ n → n ≤ nrem → Keep κ a₀ st lo (lo + nrem) st' → Mono (rks r st' lo) n → Q (some n) st') : wpS (model prog w) A E s (countRun' lo nrem) Q st := by
  rw [countRun'_eq]
  refine s_loopX (J := fun n x st' => x = n ∧ Keep κ a₀ st lo (lo + nrem) st' ∧ Mono (rks r st' lo) x) (K := fun n st' => Keep κ a₀ st lo (lo + nrem) st' ∧ (1 ≤ n ∧ n ≤ nrem) ∧ Mono (rks r st' lo) n ∧ (n ≠ nrem → rks r st' lo n < rks r st' lo (n - 1))) ?_ (fun x st' hh => ?_) ?_ ⟨rfl, Keep.refl B, .one⟩
  · rintro n _ st' h1 h2 ⟨rfl, K, M⟩
    exact wpS_bind (ask_at H K.ok hn h2 (Nat.lt_of_le_of_lt (Nat.sub_le _ 1) h2) rfl (sub_at h1) (s_if (fun c0 => wpS_pure ⟨K, ⟨h1, Nat.le_of_lt h2⟩, M, fun _ => of_decide_eq_true c0⟩) fun c0 => wpS_pure ⟨rfl, K, M.snoc h1 (ge_dec c0)⟩))
  · have e := Nat.max_eq_right h1
    rw [e] at hh
    exact ⟨hh.2.1, ⟨hh.1 ▸ h1, Nat.le_of_eq hh.1⟩, hh.2.2, fun c => absurd hh.1 c⟩
  intro n st1 p
  have h2 := p.2.1.1
  have h3 := p.2.1.2
  have K0 := p.1
  have M := p.2.2.1
  refine s_if (fun _ => wpS_pure (h _ _ h2 h3 K0 M)) fun c1 => ?_
  have e1 : n ≠ nrem := ne_beq c1
  have hlt : n < nrem := Nat.lt_of_le_of_ne h3 e1
  have hf := p.2.2.2 e1
  clear p
  refine s_eq fun m' hm => ?_
  dsimp -zeta only at hm
  extract_lets _ _ jp at hm
  refine s_jpP (F := jp) (fun st2 => Keep κ a₀ st lo (lo + nrem) st2 ∧ Anti (rks r st2 lo) (n + 1)) ?_ ?_
  · clear hm K0 M hf
    intro st2 p _
    refine wpS_bind (wpS_lift (wpAny_rule ⟨rfl, ?_⟩))
    refine s_loopX (J := fun n' x st2 => x.1 = n' ∧ Keep κ a₀ st lo (lo + nrem) st2 ∧ Anti (rks r st2 lo) x.1 ∧ x.2 + 1 ≤ x.1 ∧ Flat (rks r st2 lo) (x.1 - 1 - x.2) x.1) (K := fun x st2 => Keep κ a₀ st lo (lo + nrem) st2 ∧ (1 ≤ x.1 ∧ x.1 ≤ nrem) ∧ Anti (rks r st2 lo) x.1 ∧ x.2 + 1 ≤ x.1 ∧ Flat (rks r st2 lo) (x.1 - 1 - x.2) x.1) ?_ (fun x st2 hh => ?_) ?_ ⟨rfl, p.1, p.2, Nat.le_add_left _ _, by rw [Nat.add_sub_cancel]; exact .one⟩
    · rintro _ ⟨n', q⟩ st2 h1' h2 ⟨rfl, K, An, hq, Fl⟩
      have h1 : n + 1 ≤ n' := h1'
      have l3 : 1 ≤ n' := Nat.le_trans (Nat.le_add_left _ _) h1
      have l4 := Nat.lt_of_le_of_lt (Nat.sub_le n' 1) h2
      have lo' : lo + n' ≤ a₀.size := Nat.le_trans (Nat.add_le_add_left (Nat.le_of_lt h2) lo) hn
      have next : ∀ st3, Keep κ a₀ st lo (lo + nrem) st3 → rks r st3 lo = rks r st2 lo → rks r st2 lo n' < rks r st2 lo (n' - 1) → n' + 1 = n' + 1 ∧ Keep κ a₀ st lo (lo + nrem) st3 ∧ Anti (rks r st3 lo) (n' + 1) ∧ 0 + 1 ≤ n' + 1 ∧ Flat (rks r st3 lo) (n' + 1 - 1 - 0) (n' + 1) := fun st3 K3 e g =>
        ⟨rfl, K3, by rw [e]; exact An.snoc l3 (Int.le_of_lt g), Nat.le_add_left _ _, by rw [Nat.add_sub_cancel]; exact .one⟩
      refine wpS_bind (ask_at H K.ok hn h2 l4 rfl (sub_at l3) (s_if (fun c0 => s_if (fun _ => wpS_bind (rev_flat K (Nat.add_le_add_left (Nat.le_of_lt h2) lo) lo' hq Fl fun st3 K3 e3 => wpS_pure (next st3 K3 e3 (of_decide_eq_true c0)))) fun _ => wpS_pure (next st2 K rfl (of_decide_eq_true c0))) fun c0 => ?_))
      refine wpS_bind (ask_at H K.ok hn l4 h2 (sub_at l3) rfl (s_if (fun _ => wpS_pure ⟨K, ⟨l3, Nat.le_of_lt h2⟩, An, hq, Fl⟩) fun c2 => ?_))
      have e := Int.le_antisymm (ge_dec c2) (ge_dec c0)
      exact wpS_pure ⟨rfl, K, An.snoc l3 (Int.le_of_eq e), Nat.succ_le_succ hq, by
        rw [Nat.add_sub_cancel, Nat.add_comm q 1, ← Nat.sub_sub]
        exact Fl.snoc e⟩
    · rw [Nat.max_eq_right (show n + 1 ≤ nrem from hlt)] at hh
      exact ⟨hh.2.1, ⟨hh.1 ▸ h1, Nat.le_of_eq hh.1⟩, hh.2.2⟩
    · clear p
      intro x st2 p
      have K := p.1
      have h1 := p.2.1.1
      have h2 := p.2.1.2
      have lo' : lo + x.1 ≤ a₀.size := Nat.le_trans (Nat.add_le_add_left h2 lo) hn
      refine s_eq fun m' hm => ?_
      dsimp -zeta only at hm
      extract_lets r' _ _ _ jp2 at hm
      dsimp -zeta only [r'] at hm
      refine s_jpP (F := jp2) (fun st2 => Keep κ a₀ st lo (lo + nrem) st2 ∧ Anti (rks r st2 lo) x.1) ?_ ?_
      · clear hm K p
        intro st2 p _
        refine wpS_bind (rev_all p.1 (Nat.add_le_add_left h2 lo) lo' p.2 fun st3 K3 M => s_loopX (J := fun n x st' => x = n ∧ Keep κ a₀ st lo (lo + nrem) st' ∧ Mono (rks r st' lo) x) (K := fun n st' => Keep κ a₀ st lo (lo + nrem) st' ∧ (1 ≤ n ∧ n ≤ nrem) ∧ Mono (rks r st' lo) n) ?_ (fun y _ hh => ?_) (fun n st' q => wpS_pure (h _ _ q.2.1.1 q.2.1.2 q.1 q.2.2)) ⟨rfl, K3, M⟩)
        · rintro n' _ st' h1' h2 ⟨rfl, K, M⟩
          have l3 := Nat.le_trans h1 h1'
          exact wpS_bind (ask_at H K.ok hn h2 (Nat.lt_of_le_of_lt (Nat.sub_le _ 1) h2) rfl (sub_at l3) (s_if (fun _ => wpS_pure ⟨K, ⟨l3, Nat.le_of_lt h2⟩, M⟩) fun c0 => wpS_pure ⟨rfl, K, M.snoc l3 (ge_dec c0)⟩))
        · rw [Nat.max_eq_right h2] at hh
          exact ⟨hh.2.1, ⟨Nat.le_trans h1 (Nat.le_trans h2 (Nat.le_of_eq hh.1.symm)), Nat.le_of_eq hh.1⟩, hh.2.2⟩
      · intro hj
        clear_value jp2
        subst hm
        exact s_if (fun _ => wpS_bind (rev_flat K (Nat.add_le_add_left h2 lo) lo' p.2.2.2.1 p.2.2.2.2 fun st3 K3 e => hj _ ⟨K3, by rw [e]; exact p.2.2.1⟩ _)) fun _ => hj _ ⟨K, p.2.2.1⟩ _
  · intro hj
    clear_value jp
    subst hm
    have lo' : lo + n ≤ a₀.size := Nat.le_trans (Nat.add_le_add_left h3 lo) hn
    refine s_if (fun _ => ?_) fun c2 => hj _ ⟨K0, ?_⟩ _
    · refine wpS_bind (ask_at H K0.ok hn (i := 0) (Nat.lt_of_lt_of_le Nat.one_pos h1) (Nat.lt_of_le_of_lt (Nat.sub_le n 1) hlt) rfl (sub_at h2) (s_if (fun _ => wpS_pure (h _ _ h2 h3 K0 M)) fun c3 => ?_))
      have Fl : Flat (rks r st1 lo) 0 n := fun j _ hj' => Int.le_antisymm (M j (n - 1) (Nat.le_sub_one_of_lt hj') (Nat.sub_lt h2 Nat.one_pos)) (Int.le_trans (ge_dec c3) (M 0 j (Nat.zero_le _) hj'))
      have e0 : n - 1 + 1 = n := Nat.sub_add_cancel h2
      have g : wpS (model prog w) A E s (reverseSlice' (lo + n - (n - 1 + 1)) (lo + n)) (fun _ st2 => Keep κ a₀ st lo (lo + nrem) st2 ∧ Anti (rks r st2 lo) (n + 1)) st1 := rev_flat K0 (Nat.add_le_add_left h3 lo) lo' (Nat.le_of_eq e0) (by rw [Nat.sub_self]; exact Fl) fun st3 K3 e => ⟨K3, by rw [e]; exact Fl.anti.snoc h2 (Int.le_of_lt hf)⟩
      rw [e0, Nat.add_sub_cancel] at g
      exact wpS_bind (wpS_mono g fun _ st2 q => hj _ q _)
    · have n1 : n = 1 := Nat.le_antisymm (Nat.not_lt.mp c2) h2
      subst n1
      exact Anti.snoc (Flat.anti fun j _ hj' => by rw [Nat.lt_one_iff.mp hj']) h2 (Int.le_of_lt hf)
end
end Mine.R
namespace Mine.R
open PySem PySem.W PySem.Calls PyProof.Rows

section
variable {r : Value → Int} {arr : Array Keyed}
theorem Runs.short : ∀ {l : List (Nat × Nat × Nat)} {s e : Nat}, Runs r arr s l e → s + l.length ≤ e
  | [], _, _, h => Nat.le_of_eq h
  | (_, n, _) :: l, s, e, ⟨_, h2, _, h4⟩ => by have := h4.short; rw [List.length_cons]; omega
theorem Runs.whole {l : List (Nat × Nat × Nat)} (h : Runs r arr 0 l arr.size) (hl : l.length ≤ 1) : arr.toList.Pairwise (Le r) := by
  match l, hl, h with
  | [], _, h =>
    have e : arr.toList = [] := List.eq_nil_of_length_eq_zero (by rw [Array.length_toList]; exact (show 0 = arr.size from h).symm)
    rw [e]; exact .nil
  | [(a, n, p)], _, ⟨h1, _, h3, h4⟩ =>
    have e : 0 + n = arr.size := h4
    subst h1
    rw [Nat.zero_add] at e
    subst e
    unfold Seg at h3
    rwa [seg_all] at h3
end
section
variable {prog : Program} {w : World} {A : Around} {E : Value → Shared → Prop} {s : Shared} {κ : SortKind} {r : Value → Int} {a₀ : Array Keyed} {st : SortSt}
theorem s_jpG {α β : Type} {F : β → StateT SortSt Sem α} {m : StateT SortSt Sem α} {Q : α → SortSt → Prop} (P : β → SortSt → Prop) (hF : ∀ x st', P x st' → wpS (model prog w) A E s (F x) Q st')
    (h : (∀ x st', P x st' → wpS (model prog w) A E s (F x) Q st') → wpS (model prog w) A E s m Q st) : wpS (model prog w) A E s m Q st := h hF
theorem if_le (c : Prop) [Decidable c] (k : Nat) : (if c then k - 1 else k) ≤ k := by split <;> omega
structure Mid (κ : SortKind) (r : Value → Int) (a₀ : Array Keyed) (lo : Nat) (st : SortSt) : Prop where
  ok : SOk κ a₀ st
  runs : Runs r (arrOf st) 0 (pendingOf st).toList lo
theorem Mid.keep {lo hi : Nat} {st' : SortSt} (h : Mid κ r a₀ lo st) (K : Keep κ a₀ st lo hi st') : Mid κ r a₀ lo st' := ⟨K.ok, by rw [K.pend]; exact h.runs.congr fun j _ hj => K.same j (.inl hj)⟩
theorem less_one {x y z k : Nat} (h : x + 1 = y) (h' : y ≤ max 1 (z - k)) (h2 : ¬ y ≤ 1) : x ≤ max 1 (z - (k + 1)) := by
  have h3 : y ≤ z - k := by
    rcases Nat.le_total (z - k) 1 with q | q
    · rw [Nat.max_eq_left q] at h'; exact absurd h' h2
    · rwa [Nat.max_eq_right q] at h'
  rw [← Nat.sub_sub]
  exact Nat.le_trans (Nat.le_sub_one_of_lt (Nat.lt_of_lt_of_le (Nat.lt_of_lt_of_eq (Nat.lt_succ_self x) h) h3)) (Nat.le_max_right 1 _)
theorem two_less {n : Nat} (h : ¬ n ≤ 1) : n - 2 + 1 < n := by omega
theorem all_done {z n : Nat} (h : n ≤ max 1 (z - max 0 z)) : n ≤ 1 := by rwa [Nat.sub_eq_zero_of_le (Nat.le_max_right 0 z)] at h
theorem run_end {x lo n z : Nat} (h1 : 1 ≤ n) (h2 : n ≤ z - lo) (hlo : lo ≤ z) (hx : x ≤ lo) : lo + n ≤ z ∧ x + 1 ≤ lo + n := by omega
theorem min_run {z m : Nat} {n : Nat} (h1 : 1 ≤ n) (h2 : n ≤ z) (h : n < m) : 1 ≤ min z m := Nat.le_min.mpr ⟨Nat.le_trans h1 h2, Nat.le_of_lt (Nat.lt_of_le_of_lt h1 h)⟩
theorem mid_mono {lo : Nat} {st' : SortSt} {n : Nat} (B : SOk κ a₀ st') (hr : Runs r (arrOf st') 0 (pendingOf st').toList lo) (hs : ∀ j, lo ≤ j → (arrOf st')[j]? = (arrOf st)[j]?) (M : Mo r (arrOf st) lo n) : Mid κ r a₀ lo st' ∧ Mo r (arrOf st') lo n := by
  refine ⟨⟨B, hr⟩, fun i j hij hj => ?_⟩
  show rkAt r (arrOf st') (lo + i) ≤ rkAt r (arrOf st') (lo + j)
  rw [rkAt_congr (hs _ (Nat.le_add_right lo i)), rkAt_congr (hs _ (Nat.le_add_right lo j))]
  exact M i j hij hj
theorem Mid.push {lo n z : Nat} (R : Mid κ r a₀ lo st) (h1 : 1 ≤ n) (hz : lo + n ≤ a₀.size) (M : Mo r (arrOf st) lo n) : Mid κ r a₀ (lo + n) (setPending st ((pendingOf st).push (lo, n, z))) := by
  refine ⟨⟨R.ok.kind, R.ok.failed, R.ok.perm⟩, ?_⟩
  show Runs r (arrOf st) 0 ((pendingOf st).push (lo, n, z)).toList (lo + n)
  rw [Array.toList_push]
  exact R.runs.snoc h1 (seg_of M (by rw [R.ok.size]; exact hz))
theorem runs_ok {Q : Unit → SortSt → Prop} (H : Asks prog w A s κ r a₀) (B : SOk κ a₀ st) (hp : pendingOf st = #[]) (h : ∀ st', SOk κ a₀ st' → (arrOf st').toList.Pairwise (Le r) → Q () st') : wpS (model prog w) A E s sortRuns' Q st := by
  rw [sortRuns'_eq]
  refine wpS_bind (wpS_get ?_)
  have hz : (arrOf st).size = a₀.size := B.size
  rw [hz]
  refine s_loopX (J := fun i lo st' => Mid κ r a₀ lo st' ∧ lo ≤ a₀.size ∧ i ≤ lo) (K := fun lo st' => Mid κ r a₀ lo st' ∧ lo = a₀.size)
    ?_ (fun lo st' q => ⟨q.1, Nat.le_antisymm q.2.1 (Nat.le_trans (Nat.le_max_right 0 _) q.2.2)⟩) ?_ ⟨⟨B, by rw [hp]; rfl⟩, Nat.zero_le _, Nat.zero_le _⟩
  · intro x lo st' _ hx p
    have hlo := p.2.1
    refine s_if (fun hge => wpS_pure ⟨p.1, Nat.le_antisymm hlo hge⟩) fun hlt' => ?_
    have hlt : lo < a₀.size := Nat.lt_of_not_le hlt'
    have e1 : lo + (a₀.size - lo) ≤ a₀.size := Nat.le_of_eq (Nat.add_sub_cancel' hlo)
    have e2 : 1 ≤ a₀.size - lo := Nat.sub_pos_of_lt hlt
    refine wpS_bind (count_ok H p.1.ok e1 e2 fun n st2 h1 h2 K M => ?_)
    have R2 := p.1.keep K
    have h2' : n ≤ a₀.size - lo := h2
    have hxl := p.2.2
    clear p K
    refine s_eq fun m' hm => ?_
    dsimp -zeta only at hm
    extract_lets _ jp at hm
    refine s_jpG (F := jp ()) (fun n st2 => (1 ≤ n ∧ n ≤ a₀.size - lo) ∧ Mid κ r a₀ lo st2 ∧ Mo r (arrOf st2) lo n) ?_ ?_
    · clear hm M R2 h1 h2
      intro n st2 p
      have q := run_end p.1.1 p.1.2 hlo hxl
      refine wpS_bind (wpS_get ?_)
      refine s_eq fun m' hm => ?_
      extract_lets _ jp2 at hm
      refine s_jpG (F := jp2) (fun _ st2 => Mid κ r a₀ lo st2 ∧ Mo r (arrOf st2) lo n) ?_ ?_
      · clear hm
        intro _ st2 p2
        exact wpS_bind (wpS_modify (wpS_pure ⟨p2.1.push p.1.1 q.1 p2.2, q.1, q.2⟩))
      · intro hj
        clear_value jp2
        subst hm
        split
        · refine s_loopX (J := fun _ _ st' => Mid κ r a₀ lo st' ∧ Mo r (arrOf st') lo n) (K := fun _ st' => Mid κ r a₀ lo st' ∧ Mo r (arrOf st') lo n)
            ?_ (fun _ _ hh => hh) ?_ p.2
          · intro x c st' _ _ p
            refine wpS_bind (wpS_get ?_)
            dsimp only
            split
            · rename_i hs
              refine s_if (fun _ => wpS_pure p) fun _ => ?_
              refine wpS_bind (mergeAt_ok H p.1.ok p.1.runs hlo ?_ fun st2 B2 hr2 hs2 _ => wpS_pure (mid_mono B2 hr2 hs2 p.2))
              split at hs
              · omega
              · cases hs
            · exact wpS_pure p
          · intro c st' p
            refine wpS_bind (wpS_modify (hj _ _ ⟨⟨⟨p.1.ok.kind, p.1.ok.failed, p.1.ok.perm⟩, ?_⟩, p.2⟩))
            show Runs r (arrOf st') 0 ((pendingOf st').modify _ _).toList lo
            rw [Array.toList_modify]
            exact p.1.runs.pw fun a n p => ⟨_, rfl⟩
        · exact hj _ _ p.2
    · intro hj
      clear_value jp
      subst hm
      refine s_if (fun hmr => ?_) fun _ => hj _ _ ⟨⟨h1, h2'⟩, R2, M⟩
      have hmr' : n < minRun' a₀.size a₀.size 0 := hmr
      refine wpS_bind (wpS_lift (wpAny_rule ⟨rfl, ?_⟩))
      exact wpS_bind (binary_ok H R2.ok (Nat.le_trans (Nat.add_le_add_left (Nat.min_le_left _ _) lo) e1) M fun st3 K3 M3 => hj _ _ ⟨⟨min_run h1 h2' hmr', Nat.min_le_left _ _⟩, R2.keep K3, M3⟩)
  · intro lo st' p
    refine s_loopX (J := fun i _ st' => Mid κ r a₀ a₀.size st' ∧ (pendingOf st').size ≤ max 1 (a₀.size - i)) (K := fun _ st' => Mid κ r a₀ a₀.size st' ∧ (pendingOf st').size ≤ 1)
      ?_ (fun _ _ hh => ⟨hh.1, all_done hh.2⟩) ?_ ⟨p.2 ▸ p.1, ?_⟩
    · intro x _ st' _ _ p
      refine wpS_bind (wpS_get (s_if (fun h1 => wpS_pure ⟨p.1, h1⟩) fun hgt => ?_))
      have hgt' : ¬ (pendingOf st').size ≤ 1 := hgt
      refine wpS_bind (mergeAt_ok H p.1.ok p.1.runs (Nat.le_refl _) ?_ fun st2 B2 hr2 _ hs2 => wpS_pure ⟨⟨B2, hr2⟩, less_one hs2 p.2 hgt'⟩)
      exact Nat.lt_of_le_of_lt (Nat.add_le_add_right (if_le _ _) 1) (two_less hgt')
    · intro _ st' p
      refine wpS_pure (h _ p.1.ok (Runs.whole (l := (pendingOf st').toList) ?_ (by rw [Array.length_toList]; exact p.2)))
      rw [p.1.ok.size]
      exact p.1.runs
    · have q := p.1.runs.short
      rw [Array.length_toList, p.2, Nat.zero_add] at q
      exact Nat.le_trans q (Nat.le_max_right 1 _)
end
end Mine.R
namespace Mine.R
open PySem PySem.W PySem.Calls PyProof.Rows

section
variable {prog : Program} {w : World} {A : Around} {E : Value → Shared → Prop} {s : Shared} {r : Value → Int}
noncomputable def midHeap (h : Heap) (a : Addr) (vs : List Value) : Heap := ((h.update a (Obj.mapSeq fun _ => #[])).push (seqObj "tuple" vs.toArray 0)).push (seqObj "list" #[] 0)
noncomputable def InOrder (r : Value → Int) (vs out : List Value) : Prop := out.Perm vs ∧ out.Pairwise fun x y => r x ≤ r y
theorem pairs_same {vs : List Value} {x : Keyed} (h : x ∈ pairsOf vs) : x.1 = x.2 := by
  obtain ⟨i, hi, rfl⟩ := Array.mem_iff_getElem.mp h
  simp [pairsOf]
theorem pairs_snd (vs : List Value) : (pairsOf vs).toList.map (·.2) = vs := by
  rw [pairsOf_toList]
  exact List.map_snd_zip (Nat.le_refl _)
theorem in_order {vs : List Value} {xs : Array Keyed} (hp : xs.Perm (pairsOf vs)) (hs : xs.toList.Pairwise (Le r)) : InOrder r vs (xs.map (·.2)).toList := by
  rw [Array.toList_map]
  refine ⟨?_, List.pairwise_map.mpr (hs.imp_of_mem fun {x y} hx hy h => ?_)⟩
  · have := (Array.perm_iff_toList_perm.mp hp).map (·.2)
    rwa [pairs_snd] at this
  · rw [← pairs_same (hp.mem_iff.mp (Array.mem_def.mpr hx)), ← pairs_same (hp.mem_iff.mp (Array.mem_def.mpr hy))]
    exact h
theorem list_sort_any {a : Addr} {vs : List Value} {n : Nat} {P : PySem.Fin → Shared → Prop} (ho : s.heap.get? a = some (seqObj "list" vs.toArray n)) (h2 : 2 ≤ vs.length) (hz : vs.length ≤ sizeLine)
    (hk : wpAny (model prog w) A (keyKind' vs.toArray) (fun κ s' => s' = { s with heap := midHeap s.heap a vs } ∧ Asks prog w A { s with heap := midHeap s.heap a vs } κ r (pairsOf vs)) (fun _ _ => False) { s with heap := midHeap s.heap a vs })
    (h : ∀ out : Array Value, InOrder r vs out.toList → P (.done (.ret .none)) { s with heap := sortedHeap s.heap a vs out }) :
    wpAny (model prog w) A (Builtin.«list.sort» ⟨[.ref a], []⟩) P E s := by
  have ha : a < s.heap.objs.size := Heap.lt_size ho
  obtain ⟨e1, ho1⟩ : ∃ e1, (s.heap.update a (Obj.mapSeq fun _ => #[])).get? a = some (seqObj "list" #[] e1) := ⟨_, get?_update_seq ho fun _ => #[]⟩
  have ho6 : (midHeap s.heap a vs).get? a = some (seqObj "list" #[] e1) := Heap.get?_push_of_some _ (Heap.get?_push_of_some _ ho1)
  rw [list_sort_plain]
  refine wpAny_bind (listItems_at ho rfl (wpAny_bind (listUpdate_at ho rfl ?_ (by rw [List.size_toArray]; exact hz) (Nat.zero_le _))))
  refine wpAny_bind (seqEpoch_at ho1 rfl (wpAny_bind (wpAny_newTuple (wpAny_bind (wpAny_newList (wpAny_holding ?_) (Nat.zero_le _))) hz)))
  show wpAny (model prog w) A _ P E { s with heap := midHeap s.heap a vs }
  dsimp only
  have hn2 : ¬ vs.toArray.size < 2 := by rw [List.size_toArray]; omega
  rw [if_neg hn2, if_neg hn2]
  refine wpAny_bind (wpAny_mono hk ?_ fun _ _ x => x.elim)
  rintro κ s' ⟨rfl, H⟩
  refine wpAny_bind (wpAny_mono (runs_ok (st := SortSt.mk' κ (vs.toArray.zip vs.toArray) #[] 7 none) (Q := fun _ st' => SOk κ (pairsOf vs) st' ∧ (arrOf st').toList.Pairwise (Le r)) H ⟨rfl, rfl, Array.Perm.refl _⟩ rfl fun st' B S => ⟨B, S⟩) ?_ fun _ _ e => e)
  rintro ⟨⟨⟩, st'⟩ s' ⟨rfl, B, S⟩
  have hsz : ((arrOf st').map (·.2)).size = vs.length := (Array.size_map ..).trans (B.size.trans (pairsOf_size _))
  dsimp only
  refine wpAny_bind (seqEpoch_at ho6 rfl (wpAny_bind (listUpdate_at ho6 rfl ?_ (Nat.zero_le _) (Nat.le_trans (Nat.le_of_eq hsz) (Nat.le_succ_of_le hz)))))
  rw [B.failed]
  simp only [bne_self_eq_false, Bool.false_eq_true, if_false]
  exact wpAny_pure (h _ (in_order B.perm S))
theorem sorted_any {h₀ : Heap} {L : Addr} {m : Str → Option Value} {news : List (Addr × Obj)} {l : Addr} {vs : List Value} {Q : Value → Shared → Prop} (F : Fr h₀ L s.heap m) (N : News h₀ L s.heap news) (hl : s.heap.IsList l vs.toArray) (h2 : 2 ≤ vs.length) (hz : vs.length ≤ sizeLine)
    (hk : ∀ A' h', (∀ b o, s.heap.get? b = some o → h'.get? b = some o) → wpAny (model prog w) A' (keyKind' vs.toArray) (fun κ s' => s' = { s with heap := h' } ∧ Asks prog w A' { s with heap := h' } κ r (pairsOf vs)) (fun _ _ => False) { s with heap := h' })
    (h : ∀ (h' : Heap) (out : List Value) (e : Nat), Fr h₀ L h' m → News h₀ L h' ((s.heap.objs.size + 1, seqObj "list" out.toArray e) :: news) → InOrder r vs out → Q (.ref (s.heap.objs.size + 1)) { s with heap := h' }) :
    wpAny (model prog w) A (call (.builtin "sorted") [.ref l]) Q E s := by
  refine Calls.call_function_entry kind_sorted plain_sorted entry_sorted (args_sorted1 _) ?_
  unfold Builtin.«sorted»
  refine wpAny_bind (m := checkCount "sorted" 1 1 _) (wpAny_pure (wpAny_bind (collect_list hl (wpAny_bind (wpAny_newList ?_ hz)) hz)))
  have hsz : ((s.heap.push (seqObj "list" #[] 0)).update s.heap.objs.size (Obj.mapSeq (· ++ vs.toArray))).objs.size = s.heap.objs.size + 1 := by
    rw [Heap.size_update, size_push']
  have hoL : (((s.heap.push (seqObj "list" #[] 0)).update s.heap.objs.size (Obj.mapSeq (· ++ vs.toArray))).push (seqObj "list" vs.toArray 0)).get? (s.heap.objs.size + 1) = some (seqObj "list" vs.toArray 0) := by
    rw [← hsz]; exact Heap.get?_push_size _ rfl
  show wpAny _ _ _ _ _ { s with heap := ((s.heap.push (seqObj "list" #[] 0)).update s.heap.objs.size (Obj.mapSeq (· ++ vs.toArray))).push (seqObj "list" vs.toArray 0) }
  rw [hsz]
  refine wpAny_bind (wpAny_holding (wpAny_call_entry slot_list_sort ⟨_, hoL, rfl⟩ entry_list_sort (list_sort_any (r := r) (s := { s with heap := ((s.heap.push (seqObj "list" #[] 0)).update s.heap.objs.size (Obj.mapSeq (· ++ vs.toArray))).push (seqObj "list" vs.toArray 0) }) hoL h2 hz (hk _ _ fun b o q => ?_) fun out e1 => ⟨_, rfl, wpAny_pure ⟨_, rfl, ?_⟩⟩) (args_list_sort _)))
  · have hlt : b < s.heap.objs.size := Heap.lt_size q
    show (midHeap _ _ _).get? b = some o
    refine Heap.get?_push_of_some _ (Heap.get?_push_of_some _ ?_)
    rw [Heap.get?_update_ne _ _ _ _ (Nat.ne_of_lt (Nat.lt_succ_of_lt hlt))]
    refine Heap.get?_push_of_some _ ?_
    rw [Heap.get?_update_ne _ _ _ _ (Nat.ne_of_lt hlt)]
    exact Heap.get?_push_of_some _ q
  · obtain ⟨e, he⟩ := sortedAll_at s.heap vs out
    exact h _ out.toList e (F.kept fun _ _ => sortedAll_old) (N.kept_cons F (fun _ _ => sortedAll_old) (Nat.le_succ _) he) e1
end
end Mine.R
namespace Mine
open PySem PySem.W PySem.Calls PyProof.Rows PyProof.V PySem.Spec

inductive Bi where
  | len | abs | min | max | sorted | round | isinstance | sum
noncomputable def Bi.id : Bi → String
  | .len => "len" | .abs => "abs" | .min => "min" | .max => "max" | .sorted => "sorted" | .round => "round" | .isinstance => "isinstance" | .sum => "sum"
inductive Ty where
  | int | float | tuple | list | range | str | bool | type
  deriving DecidableEq
noncomputable def Ty.name : Ty → String
  | .int => "int" | .float => "float" | .tuple => "tuple" | .list => "list" | .range => "range" | .str => "str" | .bool => "bool" | .type => "type"

inductive AV where
  | none
  | bool (b : Bool)
  | int (i : Int)
  | float (x : UInt64)
  | str (s : Str)
  | typ (t : Ty)
  | bi (b : Bi)
  | fn (k : Nat)
  | tup (l : List AV)
  | lst (i : Nat)
  | rng (a b c : Int)

noncomputable def divII (a b : Int) : UInt64 := Float64.ofFrac (decide (a < 0) != decide (b < 0)) a.natAbs b.natAbs

noncomputable def fcmp (op : CmpOp) (o : Option Ordering) : Bool :=
  match op with
  | .Eq => o == some .eq
  | .NotEq => !(o == some .eq)
  | .Lt => o == some .lt
  | .LtE => o == some .lt || o == some .eq
  | .Gt => o == some .gt
  | .GtE => o == some .gt || o == some .eq
  | _ => false

noncomputable def icmp (op : CmpOp) (x y : Int) : Bool :=
  match op with
  | .Eq => x == y
  | .NotEq => x != y
  | .Lt => decide (x < y)
  | .LtE => decide (x ≤ y)
  | .Gt => decide (x > y)
  | .GtE => decide (x ≥ y)
  | _ => false

noncomputable def isOrd : CmpOp → Bool
  | .Eq | .NotEq | .Lt | .LtE | .Gt | .GtE => true
  | _ => false

noncomputable def flt (x y : UInt64) : Bool := Float64.cmp x y == some .lt
noncomputable def fmax3 (x y z : UInt64) : UInt64 := if flt x y then (if flt y z then z else y) else (if flt x z then z else x)
noncomputable def fmin3 (x y z : UInt64) : UInt64 := if flt y x then (if flt z y then z else y) else (if flt z x then z else x)
noncomputable def imax3 (a b c : Int) : Int := if a < b then (if b < c then c else b) else (if a < c then c else a)
end Mine
namespace Mine
open PySem PySem.W PySem.Calls PyProof.Rows PyProof.V PySem.Spec

structure St where
  loc : Nat → Option AV
  objs : List (List AV)
  own : List Nat

noncomputable def upd (ℓ : Nat → Option AV) (n : Nat) (v : AV) : Nat → Option AV := fun k => if k = n then some v else ℓ k

noncomputable def St.set (σ : St) (n : Nat) (v : AV) : St := { σ with loc := upd σ.loc n v }
noncomputable def St.alloc (σ : St) (l : List AV) : St := { σ with objs := σ.objs ++ [l], own := σ.objs.length :: σ.own }

mutual
inductive PE where
  | const (v : AV)
  | loc (n : Nat)
  | glob (j : Nat)
  | bin (op : Operator) (l r : PE)
  | neg (e : PE)
  | not (e : PE)
  | cmp (op : CmpOp) (l r : PE)
  | bools (isAnd : Bool) (es : PEs)
  | ite (c a b : PE)
  | call (f : PE) (args : PEs)
  | sub (e i : PE)
  | slTo (e hi : PE)
  | slFrom (e lo : PE)
  | tuple (es : PEs)
  | list (es : PEs)
  | comp (elt : PE) (o : Option Nat) (caps gl : List Nat) (iter : PE) (ifs : PEs)
inductive PEs where
  | nil
  | cons (e : PE) (es : PEs)
end

inductive Tgt where
  | name (n : Nat)
  | tup (ns : List Nat)

mutual
inductive PS where
  | assign (t : Tgt) (e : PE)
  | swap (ns : List Nat) (e : PE)
  | augSub (o i : PE) (op : Operator) (e : PE)
  | append (o e : PE)
  | ifs (c : PE) (a b : PSs)
  | for_ (t : Tgt) (iter : PE) (body : PSs)
  | ret (e : PE)
inductive PSs where
  | nil
  | cons (s : PS) (ss : PSs)
end


structure Keys where
  names : List Str
  globs : List Str
  cells : List Str := []
  /-- globals that none but the comprehensions read -/
  far : List Str := []

noncomputable def mC (v : AV) (c : Const) : Bool :=
  match v with
  | .none => (match c with | .none => true | _ => false)
  | .bool b => (match c with | .bool c => b == c | _ => false)
  | .int i => (match c with | .int j => i == j | _ => false)
  | .float x => (match c with | .float y => x == y | _ => false)
  | .str s => (match c with | .str t => s == t | _ => false)
  | _ => false

noncomputable def nameOf : Expr → Option Str
  | .Name x _ => some x
  | _ => none
noncomputable def tupleOf : Expr → Option (List Expr)
  | .Tuple es _ _ => some es
  | _ => none
noncomputable def tgtNames (o : Option Nat) (e : Expr) : Option (List Str) :=
  match o with
  | none => (nameOf e).map fun x => [x]
  | some n => (tupleOf e).bind fun es => if es.length == n then es.mapM nameOf else none
noncomputable def childKeys (K : Keys) (xs : List Str) (caps gl : List Nat) : Keys :=
  ⟨xs ++ caps.map (fun i => K.names.getD i ""), gl.map (fun i => K.globs.getD i ""), caps.map (fun i => K.names.getD i ""), []⟩
noncomputable def scopeOk (K : Keys) (xs : List Str) (caps gl : List Nat) (sc : Scope) : Bool :=
  (sc.kind == .function && (sc.names.all (fun y => y.2 != .cell) && sc.names.all (fun y => y.2 != .local || sc.names.lookup y.1 == some .local))) &&
  (xs.all (fun x => sc.names.lookup x == some .local && (x == ("__debug__" : Str)) == false) &&
  (caps.all (fun i => (decide (i < K.names.length) && K.cells.contains (K.names.getD i "")) && (sc.names.lookup (K.names.getD i "") == some .free && ((K.names.getD i "") == ("__debug__" : Str)) == false)) &&
  (gl.all (fun i => decide (i < K.globs.length) && sc.names.lookup (K.globs.getD i "") == some .globalImplicit) &&
  ((childKeys K xs caps gl).names.Nodup && sc.names.all (fun y => y.2 != .free || (caps.map (fun i => K.names.getD i "")).contains y.1)))))

noncomputable def notSet : Expr → Bool
  | .Set .. => false
  | _ => true
noncomputable def compKeys (K : Keys) (o : Option Nat) (tgt : Expr) (caps gl : List Nat) (sc : Scope) (n : Nat) (k : Keys → Bool) : Bool :=
  match tgtNames o tgt with
  | some xs => (scopeOk K xs caps gl sc && decide (n ≤ 1)) && k (childKeys K xs caps gl)
  | none => false
noncomputable def notSlice : Expr → Bool
  | .Slice .. => false
  | _ => true
noncomputable def notStar : Expr → Bool
  | .Starred .. => false
  | _ => true
noncomputable def boolOk : Bool → BoolOp → Bool
  | true, .And => true
  | false, .Or => true
  | _, _ => false
mutual
noncomputable def mE (K : Keys) : PE → Expr → Bool
  | .const v, e => (match e with | .Constant c _ _ => mC v c | _ => false)
  | .loc n, e => (match e with | .Name x _ => K.names[n]? == some x | _ => false)
  | .glob j, e => (match e with | .Name x _ => K.globs[j]? == some x && !(K.far.contains x) | _ => false)
  | .bin op l r, e => (match e with | .BinOp l' op' r' _ => op == op' && (mE K l l' && mE K r r') | _ => false)
  | .neg p, e => (match e with | .UnaryOp .USub e' _ => mE K p e' | _ => false)
  | .not p, e => (match e with | .UnaryOp .Not e' _ => mE K p e' | _ => false)
  | .cmp op l r, e => (match e with | .Compare l' [op'] [r'] _ => op == op' && (behindInMarks op' r' == false && (mE K l l' && mE K r r')) | _ => false)
  | .bools b es, e => (match e with | .BoolOp o es' _ => boolOk b o && mEs K es es' | _ => false)
  | .ite c a b, e => (match e with | .IfExp c' a' b' _ => mE K c c' && (mE K a a' && mE K b b') | _ => false)
  | .call f args, e => (match e with | .Call (.Name x p) (e' :: args') [] _ => mE K f (.Name x p) && mEs K args (e' :: args') | _ => false)
  | .tuple es, e => (match e with | .Tuple es' _ _ => mEs K es es' | _ => false)
  | .list es, e => (match e with | .List es' _ => mEs K es es' | _ => false)
  | .sub p i, e => (match e with | .Subscript e' i' _ => notSlice i' && (mE K p e' && mE K i i') | _ => false)
  | .slTo p hi, e => (match e with | .Subscript e' (.Slice none (some hi') none _) _ => mE K p e' && mE K hi hi' | _ => false)
  | .slFrom p lo, e => (match e with | .Subscript e' (.Slice (some lo') none none _) _ => mE K p e' && mE K lo lo' | _ => false)
  | .comp elt o caps gl iter ifs, e => (match e with | .ListComp elt' [⟨tgt, iter', ifs', 0⟩] sc _ => notSet iter' && (mE K iter iter' && compKeys K o tgt caps gl sc ifs'.length fun K' => mE K' elt elt' && mEs K' ifs ifs') | _ => false)
noncomputable def mEs (K : Keys) : PEs → List Expr → Bool
  | .nil, [] => true
  | .cons e es, e' :: es' => notStar e' && (mE K e e' && mEs K es es')
  | _, _ => false
end


noncomputable def addW (a b : AV) (σ : St) (Q : AV → St → Prop) : Prop :=
  match a, b with
  | .int x, .int y => Q (.int (x + y)) σ
  | .float x, .float y => Q (.float (Float64.add x y)) σ
  | _, _ => False
noncomputable def minusW (a b : AV) (σ : St) (Q : AV → St → Prop) : Prop :=
  match a, b with
  | .int x, .int y => Q (.int (x - y)) σ
  | .float x, .float y => Q (.float (Float64.sub x y)) σ
  | _, _ => False
noncomputable def multW (a b : AV) (σ : St) (Q : AV → St → Prop) : Prop :=
  match a, b with
  | .int x, .int y => IntMulOk x y ∧ Q (.int (x * y)) σ
  | .float x, .float y => Q (.float (Float64.mul x y)) σ
  | _, _ => False
noncomputable def divW (a b : AV) (σ : St) (Q : AV → St → Prop) : Prop :=
  match a, b with
  | .int x, .int y => (y ≠ 0 ∧ (x.natAbs < 2 ^ 1023 ∨ Float64.isInf (divII x y) = false)) ∧ Q (.float (divII x y)) σ
  | .float x, .float y => Float64.isZero y = false ∧ Q (.float (Float64.div x y)) σ
  | _, _ => False
noncomputable def modW (a b : AV) (σ : St) (Q : AV → St → Prop) : Prop :=
  match a, b with
  | .int x, .int y => y ≠ 0 ∧ Q (.int (x.fmod y)) σ
  | .float x, .float y => Float64.isZero y = false ∧ Q (.float (Float64.divmod x y).2) σ
  | _, _ => False
noncomputable def fdivW (a b : AV) (σ : St) (Q : AV → St → Prop) : Prop :=
  match a, b with
  | .int x, .int y => (y ≠ 0 ∧ y.natAbs.log2 < 9000) ∧ Q (.int (x.fdiv y)) σ
  | _, _ => False
noncomputable def powW (a b : AV) (σ : St) (Q : AV → St → Prop) : Prop :=
  match a, b with
  | .int x, .int n => (0 ≤ n ∧ n ≤ 1000000 ∧ x.natAbs < 2 ^ 64) ∧ Q (.int (x ^ n.toNat)) σ
  | _, _ => False
noncomputable def binW (op : Operator) (a b : AV) (σ : St) (Q : AV → St → Prop) : Prop :=
  match op with
  | .Add => addW a b σ Q
  | .Sub => minusW a b σ Q
  | .Mult => multW a b σ Q
  | .Div => divW a b σ Q
  | .Mod => modW a b σ Q
  | .FloorDiv => fdivW a b σ Q
  | .Pow => powW a b σ Q
  | _ => False

noncomputable def cmpW (op : CmpOp) (a b : AV) (Q : Bool → Prop) : Prop :=
  match a, b with
  | .int x, .int y => isOrd op = true ∧ Q (icmp op x y)
  | .float x, .float y => isOrd op = true ∧ Q (fcmp op (Float64.cmp x y))
  | _, _ => False

noncomputable def truth (σ : St) : AV → Option Bool
  | .bool b => some b
  | .int i => some (i != 0)
  | .lst i => (σ.objs[i]?).bind fun l => if l.length < 2 ^ 40 then some (!l.isEmpty) else none
  | _ => none
noncomputable def truthW (v : AV) (σ : St) (Q : Bool → Prop) : Prop :=
  match v with
  | .bool b => Q b
  | .int i => Q (i != 0)
  | .lst i => ∃ l, σ.objs[i]? = some l ∧ l.length < 2 ^ 40 ∧ Q (!l.isEmpty)
  | _ => False
theorem truthW_iff {v : AV} {σ : St} {Q : Bool → Prop} : truthW v σ Q ↔ ∃ b, truth σ v = some b ∧ Q b := by
  unfold truthW truth
  split
  · simp
  · simp
  · rename_i i
    constructor
    · rintro ⟨l, h, hz, q⟩; exact ⟨_, by rw [h]; simp [hz], q⟩
    · rintro ⟨b, h, q⟩
      cases hl : σ.objs[i]? with
      | none => rw [hl] at h; cases h
      | some l =>
        rw [hl] at h
        simp only [Option.bind_some] at h
        split at h
        · rename_i hz; cases h; exact ⟨l, rfl, hz, q⟩
        · cases h
  · simp

noncomputable def pick {α : Type} (l : List α) (lo hi : Option Int) : List α := (l.drop (kms_lo lo l.length)).take (kms_hi hi l.length - kms_lo lo l.length)

abbrev Fns := Nat → List AV → List (List AV) → (AV → List (List AV) → Prop) → Prop

noncomputable def intsOf : List AV → Option (List Int)
  | [] => some []
  | .int i :: r => (intsOf r).map (i :: ·)
  | _ => .none

noncomputable def binL (op : Operator) (a b : AV) (σ : St) (Q : AV → St → Prop) : Prop :=
  match op, a, b with
  | .Add, .lst i, .lst j => ∃ l k, σ.objs[i]? = some l ∧ σ.objs[j]? = some k ∧ l.length + k.length ≤ sizeLine ∧ Q (.lst σ.objs.length) (σ.alloc (l ++ k))
  | .Add, .tup l, .tup k => (0 < l.length ∧ 0 < k.length ∧ l.length + k.length ≤ sizeLine) ∧ Q (.tup (l ++ k)) σ
  | op, a, b => binW op a b σ Q

noncomputable def AV.flt? : AV → Option UInt64
  | .float x => some x
  | _ => Option.none
noncomputable def eqFlat (a b : AV) : Prop := (∃ x, a = .int x ∧ b = .int x) ∨ ∃ x y, a = .float x ∧ b = .float y ∧ Float64.cmp x y = some .eq
noncomputable def eqAll (P : AV → AV → Prop) : List AV → List AV → Prop
  | [], [] => True
  | a :: l, b :: k => P a b ∧ eqAll P l k
  | _, _ => False
noncomputable def eqNest (objs : List (List AV)) (a b : AV) : Prop := eqFlat a b ∨ ∃ i j l k, (a = .lst i ∧ b = .lst j) ∧ (objs[i]? = some l ∧ objs[j]? = some k) ∧ eqAll eqFlat l k
noncomputable def cmpL (op : CmpOp) (a b : AV) (σ : St) (Q : Bool → Prop) : Prop :=
  match a, b with
  | .lst i, .lst j => ∃ l k, (σ.objs[i]? = some l ∧ σ.objs[j]? = some k) ∧ ∃ c, ((c = true ∧ eqAll (eqNest σ.objs) l k) ∨ (c = false ∧ l.length ≠ k.length)) ∧ ((op = .Eq ∧ Q c) ∨ (op = .NotEq ∧ Q (!c)))
  | a, b => cmpW op a b Q

noncomputable def subW (o i : AV) (σ : St) (Q : AV → St → Prop) : Prop :=
  match o, i with
  | .lst j, .int k => ∃ l v, σ.objs[j]? = some l ∧ ((0 ≤ k ∧ k < 2 ^ 63 ∧ l[k.toNat]? = some v) ∨ (k = -1 ∧ l.getLast? = some v)) ∧ Q v σ
  | .tup l, .int k => ∃ v, (0 ≤ k ∧ k < 2 ^ 63) ∧ l[k.toNat]? = some v ∧ Q v σ
  | _, _ => False

noncomputable def sliceW (o : AV) (lo hi : Option Int) (σ : St) (Q : AV → St → Prop) : Prop :=
  match o with
  | .lst j => ∃ l, σ.objs[j]? = some l ∧ l.length ≤ sizeLine ∧ Q (.lst σ.objs.length) (σ.alloc (pick l lo hi))
  | .tup l => ∃ k : Nat, (lo = some (k : Int) ∧ hi = none) ∧ (1 ≤ k ∧ k ≤ l.length ∧ l.length ≤ sizeLine) ∧ Q (.tup (l.drop k)) σ
  | _ => False

noncomputable def lenW (args : List AV) (σ : St) (Q : AV → St → Prop) : Prop :=
  match args with
  | [.lst i] => ∃ l, σ.objs[i]? = some l ∧ l.length < 2 ^ 40 ∧ Q (.int l.length) σ
  | _ => False
noncomputable def minW (args : List AV) (σ : St) (Q : AV → St → Prop) : Prop :=
  match args with
  | [.float x, .float y, .float z] => Q (.float (fmin3 x y z)) σ
  | _ => False
noncomputable def maxW (args : List AV) (σ : St) (Q : AV → St → Prop) : Prop :=
  match args with
  | [.float x, .float y, .float z] => Q (.float (fmax3 x y z)) σ
  | _ => False
noncomputable def triAV (t : Int × Int × Int) : AV := .tup [.int t.1, .int t.2.1, .int t.2.2]
noncomputable def sortedW (args : List AV) (σ : St) (Q : AV → St → Prop) : Prop :=
  match args with
  | [.lst i] => (∃ xs : List UInt64, ∃ rank : UInt64 → Int, σ.objs[i]? = some (xs.map .float) ∧ (2 ≤ xs.length ∧ xs.length ≤ sizeLine) ∧ (∀ x ∈ xs, ∀ y ∈ xs, (Float64.cmp x y == some .lt) = decide (rank x < rank y)) ∧
        ∀ ys : List UInt64, ys.Perm xs → ys.Pairwise (fun x y => rank x ≤ rank y) → Q (.lst σ.objs.length) (σ.alloc (ys.map .float))) ∨
      (∃ ts : List (Int × Int × Int), σ.objs[i]? = some (ts.map triAV) ∧ (2 ≤ ts.length ∧ ts.length ≤ sizeLine) ∧ (∀ x ∈ ts, ∀ y ∈ ts, x.1 = y.1 → x = y) ∧
        ∀ us : List (Int × Int × Int), us.Perm ts → us.Pairwise (fun x y => x.1 ≤ y.1) → Q (.lst σ.objs.length) (σ.alloc (us.map triAV)))
  | _ => False
noncomputable def sumW (args : List AV) (σ : St) (Q : AV → St → Prop) : Prop :=
  match args with
  | [.lst i] => ∃ l ns, (σ.objs[i]? = some l ∧ intsOf l = some ns) ∧ Q (.int ns.sum) σ
  | [.rng a b c] => (Builtin.Range.small a b c = true ∧ 0 < c) ∧ Q (.int (preSum (fun i => a + (i : Int) * c) (Builtin.Range.rangeSize a b c).toNat)) σ
  | _ => False
noncomputable def isinstW (args : List AV) (σ : St) (Q : AV → St → Prop) : Prop :=
  match args with
  | [.float _, .typ .float] => Q (.bool true) σ
  | _ => False
noncomputable def rangeW (args : List AV) (σ : St) (Q : AV → St → Prop) : Prop :=
  match args with
  | [.int b] => Q (.rng 0 b 1) σ
  | [.int a, .int b] => Q (.rng a b 1) σ
  | [.int a, .int b, .int c] => (c ≠ 0 ∧ c.natAbs.log2 < 9000) ∧ Q (.rng a b c) σ
  | _ => False
noncomputable def biW (b : Bi) (args : List AV) (σ : St) (Q : AV → St → Prop) : Prop :=
  match b with
  | .len => lenW args σ Q
  | .min => minW args σ Q
  | .max => maxW args σ Q
  | .sorted => sortedW args σ Q
  | .isinstance => isinstW args σ Q
  | .sum => sumW args σ Q
  | _ => False
noncomputable def typW (t : Ty) (args : List AV) (σ : St) (Q : AV → St → Prop) : Prop :=
  match t with
  | .range => rangeW args σ Q
  | _ => False
noncomputable def callW (fns : Fns) (f : AV) (args : List AV) (σ : St) (Q : AV → St → Prop) : Prop :=
  match f with
  | .fn k => fns k args σ.objs (fun v objs => Q v { σ with objs := objs })
  | .bi b => biW b args σ Q
  | .typ t => typW t args σ Q
  | _ => False

noncomputable def noFns : Fns := fun _ _ _ _ => False

noncomputable def rngItems (a b c : Int) : List AV := (List.range (Builtin.Range.rangeSize a b c).toNat).map fun i => .int (a + ((i : Nat) : Int) * c)
noncomputable def itemsW (v : AV) (σ : St) (K : List AV → Prop) : Prop :=
  match v with
  | .rng a b c => (Builtin.Range.small a b c = true ∧ 0 < c) ∧ K (rngItems a b c)
  | .lst j => ∃ l, σ.objs[j]? = some l ∧ K l
  | _ => False
noncomputable def partsW (o : Option Nat) (v : AV) (objs : List (List AV)) (K : List AV → Prop) : Prop :=
  match o with
  | none => K [v]
  | some n => match v with
    | .tup l => l.length = n ∧ K l
    | .lst j => ∃ l, objs[j]? = some l ∧ l.length = n ∧ K l
    | _ => False
noncomputable def childLoc (ℓ : Nat → Option AV) (vs : List AV) (caps : List Nat) : Nat → Option AV := fun i => if i < vs.length then vs[i]? else (caps[i - vs.length]?).bind ℓ
noncomputable def childG (g : Nat → Option AV) (gl : List Nat) : Nat → Option AV := fun j => (gl[j]?).bind g
noncomputable def appendAt (objs : List (List AV)) (n : Nat) (u : AV) : List (List AV) := objs.set n (objs.getD n [] ++ [u])
noncomputable def compL (turn : AV → List (List AV) → (Option AV → List (List AV) → Prop) → Prop) (n : Nat) : List AV → List (List AV) → (List (List AV) → Prop) → Prop
  | [], objs, Q => Q objs
  | v :: vs, objs, Q => turn v objs fun r objs' => match r with
    | none => compL turn n vs objs' Q
    | some u => compL turn n vs (appendAt objs' n u) Q

noncomputable def AV.callable : AV → Bool
  | .fn _ | .bi _ | .typ _ => true
  | _ => false

mutual
noncomputable def wpE (g : Nat → Option AV) (fns : Fns) : PE → St → (AV → St → Prop) → Prop
  | .const v, σ, Q => Q v σ
  | .loc n, σ, Q => ∃ v, σ.loc n = some v ∧ Q v σ
  | .glob j, σ, Q => ∃ v, g j = some v ∧ Q v σ
  | .bin op l r, σ, Q => wpE g fns l σ fun a σ₁ => wpE g fns r σ₁ fun b σ₂ => binL op a b σ₂ Q
  | .neg e, σ, Q => wpE g fns e σ fun v σ₁ => ∃ i, v = .int i ∧ Q (.int (-i)) σ₁
  | .not e, σ, Q => wpE g fns e σ fun v σ₁ => truthW v σ₁ fun b => Q (.bool (!b)) σ₁
  | .cmp op l r, σ, Q => wpE g fns l σ fun a σ₁ => wpE g fns r σ₁ fun b σ₂ => cmpL op a b σ₂ fun c => Q (.bool c) σ₂
  | .bools isAnd es, σ, Q => wpBs g fns isAnd es σ Q
  | .ite c a b, σ, Q => wpE g fns c σ fun v σ₁ => truthW v σ₁ fun t => (t = true → wpE g fns a σ₁ Q) ∧ (t = false → wpE g fns b σ₁ Q)
  | .call f args, σ, Q => wpE g fns f σ fun fv σ₁ => fv.callable = true ∧ wpEs g fns args σ₁ fun vs σ₂ => callW fns fv vs σ₂ Q
  | .sub e i, σ, Q => wpE g fns e σ fun o σ₁ => wpE g fns i σ₁ fun v σ₂ => subW o v σ₂ Q
  | .slTo e hi, σ, Q => wpE g fns e σ fun o σ₁ => wpE g fns hi σ₁ fun h σ₂ => ∃ k, h = .int k ∧ sliceW o none (some k) σ₂ Q
  | .slFrom e lo, σ, Q => wpE g fns e σ fun o σ₁ => wpE g fns lo σ₁ fun l σ₂ => ∃ k, l = .int k ∧ sliceW o (some k) none σ₂ Q
  | .tuple es, σ, Q => wpEs g fns es σ fun vs σ₁ => vs.length ≤ sizeLine ∧ Q (.tup vs) σ₁
  | .list es, σ, Q => wpEs g fns es σ fun vs σ₁ => vs.length ≤ sizeLine ∧ ∃ n, σ₁.objs.length = n ∧ Q (.lst n) (σ₁.alloc vs)
  | .comp elt o caps gl iter ifs, σ, Q => wpE g fns iter σ fun v σ₁ => itemsW v σ₁ fun items => items.length ≤ sizeLine ∧ ∃ n, σ₁.objs.length = n ∧
      compL (fun u objs K => partsW o u objs fun us => wpTs (childG g gl) noFns ifs ⟨childLoc σ₁.loc us caps, objs, []⟩ fun ok σ₂ =>
        (ok = true → wpE (childG g gl) noFns elt σ₂ fun x σ₃ => K (some x) σ₃.objs) ∧ (ok = false → K none σ₂.objs)) n items (σ₁.objs ++ [[]]) fun objs => Q (.lst n) ⟨σ₁.loc, objs, n :: σ₁.own⟩
noncomputable def wpEs (g : Nat → Option AV) (fns : Fns) : PEs → St → (List AV → St → Prop) → Prop
  | .nil, σ, Q => Q [] σ
  | .cons e es, σ, Q => wpE g fns e σ fun v σ₁ => wpEs g fns es σ₁ fun vs σ₂ => Q (v :: vs) σ₂
noncomputable def wpTs (g : Nat → Option AV) (fns : Fns) : PEs → St → (Bool → St → Prop) → Prop
  | .nil, σ, Q => Q true σ
  | .cons e es, σ, Q => wpE g fns e σ fun v σ₁ => truthW v σ₁ fun b => (b = true → wpTs g fns es σ₁ Q) ∧ (b = false → Q false σ₁)
noncomputable def wpBs (g : Nat → Option AV) (fns : Fns) (isAnd : Bool) : PEs → St → (AV → St → Prop) → Prop
  | .nil, _, _ => False
  | .cons e es, σ, Q => wpE g fns e σ fun v σ₁ => wpBr g fns isAnd es v σ₁ Q
noncomputable def wpBr (g : Nat → Option AV) (fns : Fns) (isAnd : Bool) : PEs → AV → St → (AV → St → Prop) → Prop
  | .nil, v, σ, Q => Q v σ
  | .cons e es, v, σ, Q => truthW v σ fun b => (b = isAnd → wpE g fns e σ fun u σ₁ => wpBr g fns isAnd es u σ₁ Q) ∧ (b = !isAnd → Q v σ)
end
inductive Fl where
  | next
  | ret (v : AV)

noncomputable def setAll (σ : St) : List Nat → List AV → St
  | n :: ns, v :: vs => setAll (σ.set n v) ns vs
  | _, _ => σ
noncomputable def bindW (t : Tgt) (v : AV) (σ : St) (K : St → Prop) : Prop :=
  match t with
  | .name n => K (σ.set n v)
  | .tup ns => partsW (some ns.length) v σ.objs fun vs => K (setAll σ ns vs)
noncomputable def frozen (v : AV) (own : List Nat) : List Nat := match v with | .lst j => own.filter (· != j) | _ => own
noncomputable def thawed (v : AV) (own own' : List Nat) : List Nat := match v with | .lst j => if own.contains j then j :: own' else own' | _ => own'

mutual
noncomputable def wpS (g : Nat → Option AV) (fns : Fns) : PS → St → (Fl → St → Prop) → Prop
  | .assign t e, σ, Q => wpE g fns e σ fun v σ₁ => bindW t v σ₁ fun σ₂ => Q .next σ₂
  | .swap ns e, σ, Q => wpE g fns e σ fun v σ₁ => ∃ l, v = .tup l ∧ l.length = ns.length ∧ Q .next (setAll σ₁ ns.reverse l.reverse)
  | .augSub o i op e, σ, Q => wpE g fns o σ fun v σ₁ => ∃ j, v = .lst j ∧ wpE g fns i σ₁ fun u σ₂ => ∃ k l x, (u = .int k ∧ 0 ≤ k ∧ k < 2 ^ 63) ∧ (σ₂.objs[j]? = some l ∧ l[k.toNat]? = some (.int x)) ∧ op = .Add ∧
      wpE g fns e σ₂ fun w σ₃ => ∃ y l', w = .int y ∧ (σ₃.objs[j]? = some l' ∧ j ∈ σ₃.own ∧ k.toNat < l'.length) ∧ Q .next { σ₃ with objs := σ₃.objs.set j (l'.set k.toNat (.int (x + y))) }
  | .append o e, σ, Q => wpE g fns o σ fun v σ₁ => ∃ i, (v = .lst i ∧ i ∈ σ₁.own) ∧ wpE g fns e σ₁ fun u σ₂ => ∃ l, (σ₂.objs[i]? = some l ∧ i ∈ σ₂.own ∧ l.length < 2 ^ 20) ∧ Q .next { σ₂ with objs := σ₂.objs.set i (l ++ [u]) }
  | .ifs c a b, σ, Q => wpE g fns c σ fun v σ₁ => truthW v σ₁ fun t => (t = true → wpSs g fns a σ₁ Q) ∧ (t = false → wpSs g fns b σ₁ Q)
  | .for_ t iter body, σ, Q => wpE g fns iter σ fun v σ₁ => itemsW v σ₁ fun items => ∃ J : Nat → St → Prop, J 0 σ₁ ∧
      (∀ i u σ₂, items[i]? = some u → J i σ₂ → bindW t u { σ₂ with own := frozen v σ₂.own } fun σ₂' => wpSs g fns body σ₂' fun fl σ₃ => match fl with
        | .next => J (i + 1) { σ₃ with own := thawed v σ₂.own σ₃.own } | .ret w => Q (.ret w) { σ₃ with own := thawed v σ₂.own σ₃.own }) ∧ (∀ σ₂, J items.length σ₂ → Q .next σ₂)
  | .ret e, σ, Q => wpE g fns e σ fun v σ₁ => Q (.ret v) σ₁
noncomputable def wpSs (g : Nat → Option AV) (fns : Fns) : PSs → St → (Fl → St → Prop) → Prop
  | .nil, σ, Q => Q .next σ
  | .cons s ss, σ, Q => wpS g fns s σ fun fl σ₁ => match fl with | .next => wpSs g fns ss σ₁ Q | .ret v => Q (.ret v) σ₁
end

noncomputable def mT (K : Keys) : Tgt → Expr → Bool
  | .name n, .Name x _ => K.names[n]? == some x
  | .tup ns, .Tuple es _ _ => (ns.length == es.length) && (ns.zip es).all fun p => match p.2 with | .Name x _ => K.names[p.1]? == some x | _ => false
  | _, _ => false

noncomputable def rhsOk : Expr → Expr → Bool
  | .Name .., .ListComp .. => false
  | .Name .., .SetComp .. => false
  | .Name .., .DictComp .. => false
  | .Tuple .., .Tuple vs _ _ => vs.all (foldedForSure 8)
  | _, _ => true
noncomputable def swapT (K : Keys) (ns : List Nat) (es vs : List Expr) : Bool :=
  ((es.length == 2 || es.length == 3) && (vs.length == es.length && (vs.all notStar && ns.all fun n => decide (n < K.names.length)))) &&
  ((es.map fun e => match e with | .Name x pos => if pos.line == (es.head?.map (·.pos.line)).getD 0 && !(K.cells.contains x) then some x else none | _ => none) == (ns.map fun n => K.names[n]?) &&
  ((ns.map fun n => K.names.getD n "").eraseDups.length == ns.length && (!(vs.all (foldedForSure 8)) && !(vs.all (constantsAlone 8)))))
noncomputable def isName : Expr → Bool
  | .Name .. => true
  | _ => false
noncomputable def swapOk (K : Keys) : Expr → Expr → Bool
  | _, _ => false
mutual
noncomputable def mS (K : Keys) : PS → Stmt → Bool
  | .assign t e, s => (match s with | .Assign [t'] e' _ => mT K t t' && ((rhsOk t' e' || swapOk K t' e') && mE K e e') | _ => false)
  | .swap ns e, s => (match s with | .Assign [.Tuple es _ _] (.Tuple vs k p) _ => swapT K ns es vs && mE K e (.Tuple vs k p) | _ => false)
  | .ifs c a b, s => (match s with | .If c' a' b' _ => mE K c c' && (mSs K a a' && mSs K b b') | _ => false)
  | .for_ t it body, s => (match s with | .For t' it' body' [] _ => mT K t t' && (notSet it' && (mE K it it' && mSs K body body')) | _ => false)
  | .ret e, s => (match s with | .Return (some e') _ => mE K e e' | _ => false)
  | .augSub o i op e, s => (match s with | .AugAssign (.Subscript o' i' _) op' e' _ => notSlice i' && (op == op' && (mE K o o' && (mE K i i' && mE K e e'))) | _ => false)
  | .append o e, s => (match s with | .Expr (.Call (.Attribute o' a apos) [e'] [] pos) _ => isName o' && (a == ("append" : Str) && (apos.endLine == pos.line && (notStar e' && (mE K o o' && mE K e e')))) | _ => false)
noncomputable def mSs (K : Keys) : PSs → List Stmt → Bool
  | .nil, [] => true
  | .cons s ss, s' :: ss' => mS K s s' && mSs K ss ss'
  | _, _ => false
end
end Mine
namespace Mine
open PySem PySem.W PySem.Calls PyProof.Rows PyProof.V PySem.Spec

abbrev Led := List (Addr × Obj)
abbrev tupObj (items : List Value) (n : Nat) : Obj := { cls := .type "tuple", data := .seq items.toArray n }
abbrev lstObj (items : List Value) (n : Nat) : Obj := { cls := .type "list", data := .seq items.toArray n }
abbrev rngObj (a b c : Int) (t u v : Tok) : Obj := { cls := .type "range", dict := none, data := .fields #[.int a t, .int b u, .int c v], slots := #[] }

structure FA where
  addr : Nat → Addr
  top : Heap

noncomputable def IsL (o : Obj) (items : List Value) : Prop := o.cls = .type "list" ∧ ∃ n, o.data = .seq items.toArray n

noncomputable def IsLx (o : Obj) (items : List Value) : Prop := ∃ n, o = lstObj items n
theorem IsLx.toL {o : Obj} {items : List Value} (h : IsLx o items) : IsL o items := by obtain ⟨n, rfl⟩ := h; exact ⟨rfl, n, rfl⟩

noncomputable def Held (base : Heap) (news : Led) (a : Addr) (o : Obj) : Prop := (a, o) ∈ news ∨ base.get? a = some o

mutual
inductive RV (base : Heap) (fa : FA) (ad : List Addr) (news : Led) : AV → Value → Prop
  | none : RV base fa ad news .none .none
  | bool (b : Bool) : RV base fa ad news (.bool b) (.bool b)
  | int (i : Int) (t : Tok) : RV base fa ad news (.int i) (.int i t)
  | float (x : UInt64) (t : Tok) : t ≠ 0 → RV base fa ad news (.float x) (.float x t)
  | str (s : Str) (t : Tok) : RV base fa ad news (.str s) (.str s t)
  | typ (t : Ty) : RV base fa ad news (.typ t) (.type t.name)
  | bi (b : Bi) : RV base fa ad news (.bi b) (.builtin b.id)
  | fn (k : Nat) (o : Obj) (fd : FuncData) : fa.top.get? (fa.addr k) = some o → o.data = .func fd → RV base fa ad news (.fn k) (.ref (fa.addr k))
  | tup (l : List AV) (items : List Value) (a : Addr) (n : Nat) : Held base news a (tupObj items n) → RVs base fa ad news l items → RV base fa ad news (.tup l) (.ref a)
  | lst (i : Nat) (a : Addr) : ad[i]? = some a → RV base fa ad news (.lst i) (.ref a)
  | rng (a b c : Int) (r : Addr) (t u v : Tok) : Held base news r (rngObj a b c t u v) → RV base fa ad news (.rng a b c) (.ref r)
inductive RVs (base : Heap) (fa : FA) (ad : List Addr) (news : Led) : List AV → List Value → Prop
  | nil : RVs base fa ad news [] []
  | cons (v : AV) (vs : List AV) (c : Value) (cs : List Value) : RV base fa ad news v c → RVs base fa ad news vs cs → RVs base fa ad news (v :: vs) (c :: cs)
end

noncomputable def isCellObj (o : Obj) : Prop := ∃ v, o.data = .cell v
noncomputable def good (o : Obj) : Prop := o.cls = .type "tuple" ∨ o.cls = .type "list" ∨ o.cls = .type "range" ∨ isCellObj o
structure LeT (ad : List Addr) (news : Led) (ad' : List Addr) (news' : Led) : Prop where
  pre : ∀ (i : Nat) (a : Addr), ad[i]? = some a → ad'[i]? = some a
  keep : ∀ (a : Addr) (o : Obj), (a, o) ∈ news → o.cls = .type "tuple" ∨ o.cls = .type "range" → (a, o) ∈ news'
structure Le (fz : List Addr) (ad : List Addr) (news : Led) (ad' : List Addr) (news' : Led) : Prop where
  pre : ∀ (i : Nat) (a : Addr), ad[i]? = some a → ad'[i]? = some a
  keep : ∀ (a : Addr) (o : Obj), (a, o) ∈ news → (a ∈ fz ∨ (o.cls ≠ .type "list" ∧ ¬ isCellObj o)) → (a, o) ∈ news'

section
variable {fz : List Addr} {ad ad' ad'' : List Addr} {news news' news'' : Led}
theorem LeT.id : LeT ad news ad news := ⟨fun _ _ h => h, fun _ _ h _ => h⟩
theorem Le.refl : Le fz ad news ad news := ⟨fun _ _ h => h, fun _ _ h _ => h⟩
theorem Le.trans (h : Le fz ad news ad' news') (k : Le fz ad' news' ad'' news'') : Le fz ad news ad'' news'' :=
  ⟨fun i a e => k.pre i a (h.pre i a e), fun a o m g => k.keep a o (h.keep a o m g) g⟩
theorem Le.all (pre : ∀ (i : Nat) (a : Addr), ad[i]? = some a → ad'[i]? = some a) (k : ∀ p ∈ news, p ∈ news') : Le fz ad news ad' news' := ⟨pre, fun _ _ h _ => k _ h⟩
theorem Le.cons {p : Addr × Obj} : Le fz ad news ad (p :: news) := .all (fun _ _ h => h) fun _ h => .tail _ h
theorem snoc_pre {a : Addr} : ∀ (i : Nat) (b : Addr), ad[i]? = some b → (ad ++ [a])[i]? = some b := fun i b h => by
    have hlt : i < ad.length := (List.getElem?_eq_some_iff.mp h).1
    rw [List.getElem?_append_left hlt]; exact h
theorem Le.snoc {p : Addr × Obj} {a : Addr} : Le fz ad news (ad ++ [a]) (p :: news) := .all snoc_pre fun _ h => .tail _ h
end

theorem Held.leT {base : Heap} {ad ad' : List Addr} {news news' : Led} {a : Addr} {o : Obj} (h : Held base news a o) (k : LeT ad news ad' news') (n : o.cls = .type "tuple" ∨ o.cls = .type "range") : Held base news' a o :=
  h.elim (fun m => .inl (k.keep a o m n)) .inr

mutual
theorem RV.leT {base : Heap} {fa : FA} {ad ad' : List Addr} {news news' : Led} (k : LeT ad news ad' news') : ∀ {v : AV} {c : Value}, RV base fa ad news v c → RV base fa ad' news' v c
  | _, _, .none => .none
  | _, _, .bool b => .bool b
  | _, _, .int i t => .int i t
  | _, _, .float x t ht => .float x t ht
  | _, _, .str s t => .str s t
  | _, _, .typ n => .typ n
  | _, _, .bi n => .bi n
  | _, _, .fn j o fd h h' => .fn j o fd h h'
  | _, _, .tup l items a n h hs => .tup l items a n (h.leT k (.inl rfl)) (RVs.leT k hs)
  | _, _, .lst i a h => .lst i a (k.pre i a h)
  | _, _, .rng a b c r t u v h => .rng a b c r t u v (h.leT k (.inr rfl))
theorem RVs.leT {base : Heap} {fa : FA} {ad ad' : List Addr} {news news' : Led} (k : LeT ad news ad' news') : ∀ {v : List AV} {c : List Value}, RVs base fa ad news v c → RVs base fa ad' news' v c
  | _, _, .nil => .nil
  | _, _, .cons v vs c cs h hs => .cons v vs c cs (RV.leT k h) (RVs.leT k hs)
end

mutual
theorem RV.le {fz : List Addr} {base : Heap} {fa : FA} {ad ad' : List Addr} {news news' : Led} (k : Le fz ad news ad' news') : ∀ {v : AV} {c : Value}, RV base fa ad news v c → RV base fa ad' news' v c
  | _, _, .none => .none
  | _, _, .bool b => .bool b
  | _, _, .int i t => .int i t
  | _, _, .float x t ht => .float x t ht
  | _, _, .str s t => .str s t
  | _, _, .typ n => .typ n
  | _, _, .bi n => .bi n
  | _, _, .fn j o fd h h' => .fn j o fd h h'
  | _, _, .tup l items a n h hs => .tup l items a n (h.elim (fun m => .inl (k.keep _ _ m (.inr ⟨by simp, by rintro ⟨v, h⟩; cases h⟩))) .inr) (RVs.le k hs)
  | _, _, .lst i a h => .lst i a (k.pre i a h)
  | _, _, .rng a b c r t u v h => .rng a b c r t u v (h.elim (fun m => .inl (k.keep _ _ m (.inr ⟨by simp, by rintro ⟨v, h⟩; cases h⟩))) .inr)
theorem RVs.le {fz : List Addr} {base : Heap} {fa : FA} {ad ad' : List Addr} {news news' : Led} (k : Le fz ad news ad' news') : ∀ {v : List AV} {c : List Value}, RVs base fa ad news v c → RVs base fa ad' news' v c
  | _, _, .nil => .nil
  | _, _, .cons v vs c cs h hs => .cons v vs c cs (RV.le k h) (RVs.le k hs)
end

structure Cx where
  prog : Program
  w : World
  A : Around
  env : Env
  base : Heap
  fa : FA
  mg : Str → Option Value
  mb : Str → Option Value
  K : Keys
  gval : Nat → Option AV
  fns : Fns
  fz : List Addr
  /-- the frame's own cells are its own to store into -/
  ownCells : Bool

noncomputable def VarAt (C : Cx) (m : Str → Option Value) (news : Led) (x : Str) (cv : Value) : Prop :=
  if x ∈ C.K.cells then ∃ c o, C.env.cells.lookup x = some c ∧ Held C.base news c o ∧ o.data = .cell (some cv) else m x = some cv

structure RelM (C : Cx) (σ : St) (m : Str → Option Value) (ad : List Addr) (news : Led) : Prop where
  loc : ∀ n v, σ.loc n = some v → ∃ x cv, C.K.names[n]? = some x ∧ VarAt C m news x cv ∧ RV C.base C.fa ad news v cv
  len : ad.length = σ.objs.length
  obj : ∀ (i : Nat) (l : List AV), σ.objs[i]? = some l → ∃ (a : Addr) (items : List Value) (o : Obj), ad[i]? = some a ∧ (Held C.base news a o ∧ IsL o items) ∧ RVs C.base C.fa ad news l items
  own : ∀ (i : Nat), i ∈ σ.own → ∃ (a : Addr) (o : Obj), ad[i]? = some a ∧ ((a, o) ∈ news ∧ (∃ its, IsLx o its)) ∧ a ∉ C.fz
  inj : ∀ (i j : Nat) (a : Addr), ad[i]? = some a → ad[j]? = some a → i = j
  fzin : ∀ a ∈ C.fz, ∃ o, Held C.base news a o ∧ ∃ its, IsL o its
  cells : C.ownCells = true → ∀ x ∈ C.K.cells, ∃ c o, C.env.cells.lookup x = some c ∧ (c, o) ∈ news ∧ isCellObj o

structure Rel (C : Cx) (σ : St) (h : Heap) (m : Str → Option Value) (ad : List Addr) (news : Led) : Prop where
  F : Fr C.base C.env.locals h m
  N : News C.base C.env.locals h news
  M : RelM C σ m ad news

theorem Held.get {C : Cx} {σ : St} {h : Heap} {m : Str → Option Value} {ad : List Addr} {news : Led} {a : Addr} {o : Obj} (R : Rel C σ h m ad news) (x : Held C.base news a o) : h.get? a = some o :=
  x.elim (fun hm => (R.N _ hm).1) fun hb => R.F.keep _ _ hb

structure Rest (s s' : Shared) : Prop where
  eq : ∃ h tk, s' = { s with heap := h, toks := tk }
theorem Rest.refl {s : Shared} : Rest s s := ⟨_, _, rfl⟩
theorem Rest.trans {s s' s'' : Shared} (h : Rest s s') (k : Rest s' s'') : Rest s s'' := by
  obtain ⟨⟨_, _, rfl⟩⟩ := h
  obtain ⟨⟨_, _, rfl⟩⟩ := k
  exact ⟨⟨_, _, rfl⟩⟩
theorem Rest.mk' {s : Shared} {h : Heap} {tk : Nat} : Rest s { s with heap := h, toks := tk } := ⟨⟨_, _, rfl⟩⟩
theorem Rest.toks {s : Shared} {tk : Nat} : Rest s { s with toks := tk } := ⟨⟨_, _, rfl⟩⟩
theorem Rest.heap {s : Shared} {h : Heap} : Rest s { s with heap := h } := ⟨⟨_, _, rfl⟩⟩

abbrev NoE : Value → Shared → Prop := fun _ _ => False
abbrev Wp (C : Cx) {α : Type} (t : Sem α) (Q : α → Shared → Prop) (s : Shared) : Prop := wpAny (model C.prog C.w) C.A t Q NoE s

theorem withT {C : Cx} {α : Type} {t : Sem α} {Q : α → Shared → Prop} {s : Shared} (T : 0 < s.toks) (h : Wp C t (fun a s' => 0 < s'.toks → Q a s') s) : Wp C t Q s :=
  wpAny_mono (wpAny_toks h) (fun _ _ x => x.2 (Nat.lt_of_lt_of_le T x.1)) (fun _ _ x => x.2)
noncomputable def PostV (C : Cx) (Q : AV → St → Prop) (s : Shared) (ad : List Addr) (news : Led) (cv : Value) (s' : Shared) : Prop :=
  ∃ v σ' m' ad' news', Q v σ' ∧ RV C.base C.fa ad' news' v cv ∧ Rel C σ' s'.heap m' ad' news' ∧ Le C.fz ad news ad' news' ∧ Rest s s'
noncomputable def PostVs (C : Cx) (Q : List AV → St → Prop) (s : Shared) (ad : List Addr) (news : Led) (cv : List Value) (s' : Shared) : Prop :=
  ∃ v σ' m' ad' news', Q v σ' ∧ RVs C.base C.fa ad' news' v cv ∧ Rel C σ' s'.heap m' ad' news' ∧ Le C.fz ad news ad' news' ∧ Rest s s'
noncomputable def PostB (C : Cx) (Q : Bool → St → Prop) (s : Shared) (ad : List Addr) (news : Led) (b : Bool) (s' : Shared) : Prop :=
  ∃ σ' m' ad' news', Q b σ' ∧ Rel C σ' s'.heap m' ad' news' ∧ Le C.fz ad news ad' news' ∧ Rest s s'

theorem PostV.up {C : Cx} {Q : AV → St → Prop} {s₀ s : Shared} {ad₀ ad : List Addr} {news₀ news : Led} (k : Le C.fz ad₀ news₀ ad news) (r : Rest s₀ s) {cv : Value} {s' : Shared} (h : PostV C Q s ad news cv s') : PostV C Q s₀ ad₀ news₀ cv s' := by
  obtain ⟨v, σ', m', ad', news', q, rv, R, l, r'⟩ := h
  exact ⟨v, σ', m', ad', news', q, rv, R, k.trans l, r.trans r'⟩
theorem PostVs.up {C : Cx} {Q : List AV → St → Prop} {s₀ s : Shared} {ad₀ ad : List Addr} {news₀ news : Led} (k : Le C.fz ad₀ news₀ ad news) (r : Rest s₀ s) {cv : List Value} {s' : Shared} (h : PostVs C Q s ad news cv s') : PostVs C Q s₀ ad₀ news₀ cv s' := by
  obtain ⟨v, σ', m', ad', news', q, rv, R, l, r'⟩ := h
  exact ⟨v, σ', m', ad', news', q, rv, R, k.trans l, r.trans r'⟩
theorem PostB.up {C : Cx} {Q : Bool → St → Prop} {s₀ s : Shared} {ad₀ ad : List Addr} {news₀ news : Led} (k : Le C.fz ad₀ news₀ ad news) (r : Rest s₀ s) {cv : Bool} {s' : Shared} (h : PostB C Q s ad news cv s') : PostB C Q s₀ ad₀ news₀ cv s' := by
  obtain ⟨σ', m', ad', news', q, R, l, r'⟩ := h
  exact ⟨σ', m', ad', news', q, R, k.trans l, r.trans r'⟩

theorem PostV.here {C : Cx} {Q : AV → St → Prop} {σ : St} {s : Shared} {m : Str → Option Value} {ad : List Addr} {news : Led} {v : AV} {cv : Value} {tk : Nat} (R : Rel C σ s.heap m ad news) (q : Q v σ) (rv : RV C.base C.fa ad news v cv) :
    PostV C Q s ad news cv { s with toks := tk } := ⟨v, σ, m, ad, news, q, rv, R, Le.refl, Rest.toks⟩
theorem PostV.same {C : Cx} {Q : AV → St → Prop} {σ : St} {s : Shared} {m : Str → Option Value} {ad : List Addr} {news : Led} {v : AV} {cv : Value} (R : Rel C σ s.heap m ad news) (q : Q v σ) (rv : RV C.base C.fa ad news v cv) :
    PostV C Q s ad news cv s := ⟨v, σ, m, ad, news, q, rv, R, Le.refl, Rest.refl⟩

section
variable {C : Cx} {σ : St} {s : Shared} {m : Str → Option Value} {ad : List Addr} {news : Led}

theorem add_sound {a b : AV} {ca cb : Value} {Q : AV → St → Prop} (T : 0 < s.toks) (R : Rel C σ s.heap m ad news) (ra : RV C.base C.fa ad news a ca) (rb : RV C.base C.fa ad news b cb) (hh : C.A.handled = none)
    (q : addW a b σ Q) : Wp C (binaryOp .Add ca cb) (PostV C Q s ad news) s := by
  unfold addW at q
  split at q <;> first | exact False.elim q | (cases ra; cases rb)
  · exact PyProof.Rows.add_int (PostV.here R q (.int _ _))
  · exact PyProof.Rows.add_float (PostV.here R q (.float _ _ (Nat.ne_of_gt T)))
theorem minus_sound {a b : AV} {ca cb : Value} {Q : AV → St → Prop} (T : 0 < s.toks) (R : Rel C σ s.heap m ad news) (ra : RV C.base C.fa ad news a ca) (rb : RV C.base C.fa ad news b cb) (hh : C.A.handled = none)
    (q : minusW a b σ Q) : Wp C (binaryOp .Sub ca cb) (PostV C Q s ad news) s := by
  unfold minusW at q
  split at q <;> first | exact False.elim q | (cases ra; cases rb)
  · exact PyProof.Rows.sub_int (PostV.here R q (.int _ _))
  · exact PyProof.Rows.sub_float (PostV.here R q (.float _ _ (Nat.ne_of_gt T)))
theorem mult_sound {a b : AV} {ca cb : Value} {Q : AV → St → Prop} (T : 0 < s.toks) (R : Rel C σ s.heap m ad news) (ra : RV C.base C.fa ad news a ca) (rb : RV C.base C.fa ad news b cb) (hh : C.A.handled = none)
    (q : multW a b σ Q) : Wp C (binaryOp .Mult ca cb) (PostV C Q s ad news) s := by
  unfold multW at q
  split at q <;> first | exact False.elim q | (cases ra; cases rb)
  · exact PyProof.Rows.mul_int (PostV.here R q.2 (.int _ _)) q.1
  · exact PyProof.Rows.mul_float (PostV.here R q (.float _ _ (Nat.ne_of_gt T)))
theorem div_sound {a b : AV} {ca cb : Value} {Q : AV → St → Prop} (T : 0 < s.toks) (R : Rel C σ s.heap m ad news) (ra : RV C.base C.fa ad news a ca) (rb : RV C.base C.fa ad news b cb) (hh : C.A.handled = none)
    (q : divW a b σ Q) : Wp C (binaryOp .Div ca cb) (PostV C Q s ad news) s := by
  unfold divW at q
  split at q <;> first | exact False.elim q | (cases ra; cases rb)
  · rcases q.1.2 with h | h
    · exact Flt.div_ii_fits hh h (fun e => absurd e q.1.1) (fun _ _ => PostV.here R q.2 (.float _ _ (Nat.ne_of_gt T)))
    · exact Flt.div_ii hh (fun e => absurd e q.1.1) (fun _ e => absurd (h.symm.trans e) Bool.false_ne_true) (fun _ _ => PostV.here R q.2 (.float _ _ (Nat.ne_of_gt T)))
  · exact PyProof.Rows.truediv_float_or hh (fun e => by rw [q.1] at e; cases e) (fun _ => PostV.here R q.2 (.float _ _ (Nat.ne_of_gt T)))
theorem mod_sound {a b : AV} {ca cb : Value} {Q : AV → St → Prop} (T : 0 < s.toks) (R : Rel C σ s.heap m ad news) (ra : RV C.base C.fa ad news a ca) (rb : RV C.base C.fa ad news b cb) (hh : C.A.handled = none)
    (q : modW a b σ Q) : Wp C (binaryOp .Mod ca cb) (PostV C Q s ad news) s := by
  unfold modW at q
  split at q <;> first | exact False.elim q | (cases ra; cases rb)
  · exact PyProof.Rows.mod_int q.1 (PostV.here R q.2 (.int _ _))
  · exact Flt.mod_ff hh (fun e => by rw [q.1] at e; cases e) (fun _ => PostV.here R q.2 (.float _ _ (Nat.ne_of_gt T)))
theorem fdiv_sound {a b : AV} {ca cb : Value} {Q : AV → St → Prop} (R : Rel C σ s.heap m ad news) (ra : RV C.base C.fa ad news a ca) (rb : RV C.base C.fa ad news b cb) (hh : C.A.handled = none)
    (q : fdivW a b σ Q) : Wp C (binaryOp .FloorDiv ca cb) (PostV C Q s ad news) s := by
  unfold fdivW at q
  split at q <;> first | exact False.elim q | (cases ra; cases rb)
  · exact PyProof.Rows.floordiv_int q.1.1 (PostV.here R q.2 (.int _ _)) (.inl (PyProof.noPylong_of_log2 q.1.2))
theorem pow_sound {a b : AV} {ca cb : Value} {Q : AV → St → Prop} (R : Rel C σ s.heap m ad news) (ra : RV C.base C.fa ad news a ca) (rb : RV C.base C.fa ad news b cb) (hh : C.A.handled = none)
    (q : powW a b σ Q) : Wp C (binaryOp .Pow ca cb) (PostV C Q s ad news) s := by
  unfold powW at q
  split at q <;> first | exact False.elim q | (cases ra; cases rb)
  · exact PyProof.Rows.pow_int_small q.1.1 q.1.2.1 q.1.2.2 (PostV.here R q.2 (.int _ _))
theorem bin_sound {op : Operator} {a b : AV} {ca cb : Value} {Q : AV → St → Prop} (T : 0 < s.toks) (R : Rel C σ s.heap m ad news) (ra : RV C.base C.fa ad news a ca) (rb : RV C.base C.fa ad news b cb) (hh : C.A.handled = none)
    (q : binW op a b σ Q) : Wp C (binaryOp op ca cb) (PostV C Q s ad news) s := by
  match op, q with
  | .Add, q => exact add_sound T R ra rb hh q
  | .Sub, q => exact minus_sound T R ra rb hh q
  | .Mult, q => exact mult_sound T R ra rb hh q
  | .Div, q => exact div_sound T R ra rb hh q
  | .Mod, q => exact mod_sound T R ra rb hh q
  | .FloorDiv, q => exact fdiv_sound R ra rb hh q
  | .Pow, q => exact pow_sound R ra rb hh q

theorem cmp_sound {op : CmpOp} {a b : AV} {ca cb : Value} {Q : Bool → Prop} (R : Rel C σ s.heap m ad news) (ra : RV C.base C.fa ad news a ca) (rb : RV C.base C.fa ad news b cb) (hh : C.A.handled = none)
    (q : cmpW op a b Q) : Wp C (compareOp op ca cb) (fun cv s' => ∃ c, cv = .bool c ∧ s' = s ∧ Q c) s := by
  unfold cmpW at q
  split at q <;> first | exact False.elim q | (cases ra; cases rb)
  · cases op <;> first | (simp [isOrd] at q; done) | skip
    · exact PyProof.Rows.eq_int ⟨_, rfl, rfl, q.2⟩
    · exact PyProof.Rows.ne_int ⟨_, rfl, rfl, q.2⟩
    · exact PyProof.Rows.lt_int ⟨_, rfl, rfl, q.2⟩
    · exact PyProof.Rows.le_int ⟨_, rfl, rfl, q.2⟩
    · exact PyProof.Rows.gt_int ⟨_, rfl, rfl, q.2⟩
    · exact PyProof.Rows.ge_int ⟨_, rfl, rfl, q.2⟩
  · cases op <;> first | (simp [isOrd] at q; done) | skip
    · exact AutoFloatOps.eq_0 ⟨_, rfl, rfl, q.2⟩
    · exact AutoFloatOps.ne_0 ⟨_, rfl, rfl, q.2⟩
    · exact AutoFloatOps.lt_0 ⟨_, rfl, rfl, q.2⟩
    · exact AutoFloatOps.le_0 ⟨_, rfl, rfl, q.2⟩
    · exact AutoFloatOps.gt_0 ⟨_, rfl, rfl, q.2⟩
    · exact AutoFloatOps.ge_0 ⟨_, rfl, rfl, q.2⟩

end
end Mine
namespace Mine
open PySem PySem.W PySem.Calls PyProof.Rows PyProof.V PySem.Spec

section
variable {prog : Program} {w : World} {A : Around} {E : Value → Shared → Prop} {s : Shared} {Q : Value → Shared → Prop}
open Flt in
noncomputable def max3 (a b c : Value) : Value := if ltV a b then (if ltV b c then c else b) else (if ltV a c then c else a)
open Flt in
noncomputable def min3 (a b c : Value) : Value := if ltV b a then (if ltV c b then c else b) else (if ltV c a then c else a)
open Flt in
theorem max_three_num {a b c : Value} (hh : A.handled = none) (ha : NumV a) (hb : NumV b) (hc : NumV c)
    (h : ∀ h' tk, (∀ c o, s.heap.get? c = some o → h'.get? c = some o) → Q (max3 a b c) { s with heap := h', toks := tk }) :
    wpAny (model prog w) A (call (.builtin "max") [a, b, c]) Q E s := by
  have hT : (s.heap.push { cls := .type "tuple", data := .seq #[a, b, c] }).IsTuple s.heap.objs.size #[a, b, c] := ⟨_, Heap.get?_push_size _ rfl, rfl, 0, rfl⟩
  refine call_max_three (wpAny_pyIter_tuple hT ?_)
  have hsz : (s.heap.push { cls := .type "tuple", data := .seq #[a, b, c] }).objs.size = s.heap.objs.size + 1 := Heap.size_push ..
  refine ⟨_, [_, s.heap.objs.size], [_], _, _, _, _, rfl, Walks.tuple (A := A.in1) hh _ s.heap.objs.size (by rw [hsz]; exact Nat.ne_of_lt (Nat.lt_succ_self _)) #[a, b, c],
    ⟨⟨_, Heap.get?_push_size _ rfl, rfl, rfl⟩, hT.push _⟩, fun d hd => ?_, by simp, cmpOf_gt #[a, b, c] (by simp [ha, hb, hc]), fun v h' tk hP hk => ?_⟩
  · show d < ((s.heap.push _).push _).objs.size
    rw [Heap.size_push, hsz]
    rcases List.mem_cons.mp hd with rfl | hd
    · rw [hsz]; exact Nat.lt_succ_self _
    · rcases List.mem_cons.mp hd with rfl | hd
      · exact Nat.lt_succ_of_lt (Nat.lt_succ_self _)
      · cases hd
  · have hold : ∀ d o, s.heap.get? d = some o → h'.get? d = some o := fun d o e => by
      refine hk d o (fun hm => ?_) (Heap.get?_push_of_some _ (Heap.get?_push_of_some _ e))
      rcases List.mem_cons.mp hm with e1 | hm
      · have := Heap.lt_size e; rw [e1, hsz] at this; exact Nat.lt_irrefl _ (Nat.lt_of_succ_lt this)
      · cases hm
    have := h h' tk hold
    have hv : v = max3 a b c := by
      unfold max3
      cases h1 : ltV a b <;> cases h2 : ltV b c <;> cases h3 : ltV a c <;> simp [argBest, h1, h2, h3] at hP <;> simp [hP]
    rw [hv]; exact this
open Flt in
theorem min_three_num {a b c : Value} (hh : A.handled = none) (ha : NumV a) (hb : NumV b) (hc : NumV c)
    (h : ∀ h' tk, (∀ c o, s.heap.get? c = some o → h'.get? c = some o) → Q (min3 a b c) { s with heap := h', toks := tk }) :
    wpAny (model prog w) A (call (.builtin "min") [a, b, c]) Q E s := by
  have hT : (s.heap.push { cls := .type "tuple", data := .seq #[a, b, c] }).IsTuple s.heap.objs.size #[a, b, c] := ⟨_, Heap.get?_push_size _ rfl, rfl, 0, rfl⟩
  refine call_min_three (wpAny_pyIter_tuple hT ?_)
  have hsz : (s.heap.push { cls := .type "tuple", data := .seq #[a, b, c] }).objs.size = s.heap.objs.size + 1 := Heap.size_push ..
  refine ⟨_, [_, s.heap.objs.size], [_], _, _, _, _, rfl, Walks.tuple (A := A.in1) hh _ s.heap.objs.size (by rw [hsz]; exact Nat.ne_of_lt (Nat.lt_succ_self _)) #[a, b, c],
    ⟨⟨_, Heap.get?_push_size _ rfl, rfl, rfl⟩, hT.push _⟩, fun d hd => ?_, by simp, cmpOf_lt #[a, b, c] (by simp [ha, hb, hc]), fun v h' tk hP hk => ?_⟩
  · show d < ((s.heap.push _).push _).objs.size
    rw [Heap.size_push, hsz]
    rcases List.mem_cons.mp hd with rfl | hd
    · rw [hsz]; exact Nat.lt_succ_self _
    · rcases List.mem_cons.mp hd with rfl | hd
      · exact Nat.lt_succ_of_lt (Nat.lt_succ_self _)
      · cases hd
  · have hold : ∀ d o, s.heap.get? d = some o → h'.get? d = some o := fun d o e => by
      refine hk d o (fun hm => ?_) (Heap.get?_push_of_some _ (Heap.get?_push_of_some _ e))
      rcases List.mem_cons.mp hm with e1 | hm
      · have := Heap.lt_size e; rw [e1, hsz] at this; exact Nat.lt_irrefl _ (Nat.lt_of_succ_lt this)
      · cases hm
    have := h h' tk hold
    have hv : v = min3 a b c := by
      unfold min3
      cases h1 : ltV b a <;> cases h2 : ltV c b <;> cases h3 : ltV c a <;> simp [argBest, h1, h2, h3] at hP <;> simp [hP]
    rw [hv]; exact this

theorem set_at {l : Addr} {items : Array Value} {n : Nat} {k : Int} {t : Tok} {v : Value} {Q : Unit → Shared → Prop} (hl : s.heap.get? l = some { cls := .type "list", data := .seq items n })
    (h0 : 0 ≤ k) (hfit : k < 2 ^ 63) (hn : k.toNat < items.size)
    (hQ : ∀ h', Heap.SameBut l s.heap h' → h'.get? l = some { cls := .type "list", data := .seq (items.setIfInBounds k.toNat v) n } → Q () { s with heap := h' }) :
    wpAny (model prog w) A (setItem (.ref l) (.int k t) v) Q E s := by
  have T : s.TypeIs (.ref l) "list" := ⟨_, hl, rfl⟩
  unfold setItem
  refine wpAny_holding ?_
  refine wpAny_bind (wpAny_sequenceKey T (by decide) ?_)
  refine wpAny_bind (wpAny_callSpecial?_slot (name := Str.ofString "__setitem__") T slot_list_setitem
    (wpAny_call_entry slot_list_setitem T entry_list_setitem ?_ (args_list_setitem _ _ _)))
  show wpAny _ _ (Builtin.List.listSubscript? (.int k t) >>= _) _ _ s
  refine wpAny_bind (wpAny_listSubscript_int (fitsIndex_of h0 hfit) ?_)
  clear hfit
  obtain ⟨j, rfl⟩ := Int.eq_ofNat_of_zero_le h0
  have hj : j < items.size := by simpa using hn
  show wpAny _ _ ((seqItemAt l j >>= fun r => pure (r.map (j, ·))) >>= _) _ _ s
  refine wpAny_bind (wpAny_bind (wpAny_seqItemAt hl rfl (wpAny_pure ?_)))
  rw [Array.getElem?_eq_getElem hj]
  show wpAny _ _ (setSeqItemAt l j v >>= _) _ _ s
  have hg : (s.heap.update l (Obj.mapSeq (·.setIfInBounds j v))).get? l = some { cls := .type "list", data := .seq (items.setIfInBounds j v) n } := by
    rw [Heap.get?_update_self _ hl (Obj.isFreed_of_seq (Obj.data_mapSeq (o := { cls := .type "list", data := .seq items n }) rfl (·.setIfInBounds j v)).choose_spec)]
    simp [Obj.mapSeq]
  refine wpAny_bind (wpAny_setSeqItemAt hl rfl ?_)
  first
    | exact wpAny_bind (wpAny_pure (wpAny_pure ⟨.none, rfl, wpAny_pure (hQ _ (Heap.SameBut.update ..) hg)⟩))
    | exact wpAny_pure ⟨.none, rfl, wpAny_pure (hQ _ (Heap.SameBut.update ..) hg)⟩
theorem isinstance_float_true {x : UInt64} {t : Tok} (h : Q (.bool true) s) : wpAny (model prog w) A (call (.builtin "isinstance") [.float x t, .type "float"]) Q E s :=
  call_isinstance (isinstance_true (Tx := "float") (by kernel_rfl) (by rw [isSubtype_type]; kernel_rfl)) ⟨typeIs_float s x t, h⟩
end
end Mine
namespace Mine
open PySem PySem.W PySem.Calls PyProof.Rows PyProof.V PySem.Spec

section
variable {M : Model} {A : Around} {E : Value → Shared → Prop} {s : Shared}
theorem same_float {x y : UInt64} {u v : Tok} {Q : Bool → Shared → Prop} (hu : u ≠ 0) (hv : v ≠ 0) (hb : NoneBooked s.heap) (hq : ∀ b, Q b s) : wpAny M A (isSame (.float x u) (.float y v)) Q E s := by
  show wpAny M A (isSame.created (x == y && !Float64.isNaN x) u v) Q E s
  unfold isSame.created
  refine wpAny_ite ?_
  have h0 : (u == 0 || v == 0) = false := by simp [hu, hv]
  split
  · rename_i h; rw [h0] at h; exact absurd h Bool.false_ne_true
  refine wpAny_ite ?_
  split
  · exact wpAny_pure (hq _)
  refine wpAny_ite ?_
  split
  · exact wpAny_pure (hq _)
  refine wpAny_bind (wpAny_sharingNotTold_none hb ?_)
  simp only [Bool.false_eq_true, if_false]
  refine wpAny_bind (wpAny_sharingNotTold_none hb ?_)
  simp only [Bool.false_eq_true, if_false]
  exact wpAny_bind (wpAny_rule (wpAny_bind (wpAny_askSetting (wpAny_pure (hq _)))))
theorem eqAt_float {x y : UInt64} {t u : Tok} (ht : t ≠ 0) (hu : u ≠ 0) (hb : NoneBooked s.heap) (hc : Float64.cmp x y = some .eq) : SeqAt.EqAt A s (.float x t) (.float y u) true := fun prog w E Q hq => by
  unfold eqBool
  refine wpAny_holding ?_
  refine wpAny_ite_split (fun _ => wpAny_bind (wpAny_rule (wpAny_pure hq))) (fun _ => ?_)
  refine wpAny_bind (same_float ht hu hb fun b => ?_)
  cases b
  · simp only [Bool.false_eq_true, if_false]
    refine wpAny_bind ?_
    show wpAny (model prog w) A (compareOp .Eq (.float x t) (.float y u)) _ _ s
    refine AutoFloatOps.eq_0 ?_
    rw [hc]
    exact wpAny_truthy_bool hq
  · simp only [if_true]
    exact wpAny_pure hq
end
section
variable {prog : Program} {w : World} {A : Around} {E : Value → Shared → Prop} {s : Shared}
theorem oneLt_float {x y : UInt64} {t u : Tok} {Q : Bool → Shared → Prop} (h : Q (Float64.cmp x y == some .lt) s) : wpAny (model prog w) A (keyLt' oneType' (.float x t) (.float y u)) Q E s := by
  rw [keyLt'_oneType, oneLt'_eq]
  simp only [if_true]
  refine wpAny_bind (wpAny_cRoomFor_byValue rfl ?_)
  refine wpAny_bind (wpAny_callSpecialIfBound?_slot (AutoFloatOps.typeIs_float s x t) F.slot_float_lt (call_gives F.slot_float_lt (AutoFloatOps.typeIs_float s x t) F.entry_float_lt (F.args_float_lt_2 _ _) (AutoFloatG5.float___lt___float_float_0 x t y u) ?_))
  exact wpAny_truthy_bool h
end
end Mine
namespace Mine
open PySem PySem.W PySem.Calls PyProof.Rows PyProof.V PySem.Spec

noncomputable def GV (fa : FA) : AV → Value → Prop
  | .bi b, .builtin i => i = b.id
  | .typ t, .type n => n = t.name
  | .fn k, .ref a => a = fa.addr k ∧ ∃ o fd, fa.top.get? (fa.addr k) = some o ∧ o.data = .func fd
  | _, _ => False

structure CxOK (C : Cx) : Prop where
  hh : C.A.handled = none
  htop : ∀ b o, C.fa.top.get? b = some o → C.base.get? b = some o
  units : C.A.units + 64 < cLine
  kind : C.env.scope.kind = .function
  nodup : C.K.names.Nodup
  locs : ∀ x ∈ C.K.names, (x == ("__debug__" : Str)) = false ∧ (x ∉ C.K.cells → C.env.kindOf x = some .local) ∧ (x ∈ C.K.cells → C.env.kindOf x = some .cell)
  cellinj : ∀ x ∈ C.K.cells, ∀ y ∈ C.K.cells, ∀ c, C.env.cells.lookup x = some c → C.env.cells.lookup y = some c → x = y
  cellat : ∀ x ∈ C.K.cells, ∃ c, C.env.cells.lookup x = some c
  g : C.base.Ns mainGlobals C.mg
  b : C.base.Ns builtinsNs C.mb
  nb : NoneBooked C.base
  eg : C.env.globals = mainGlobals
  eb : C.env.builtins = builtinsNs
  globs : ∀ (j : Nat) (x : Str) (v : AV), C.K.globs[j]? = some x → C.gval j = some v → ((x == ("__debug__" : Str)) = false ∧ (x ∉ C.K.far → C.env.kindOf x = some .globalImplicit)) ∧ ∃ cv, GV C.fa v cv ∧ (C.mg x = some cv ∨ (C.mg x = none ∧ C.mb x = some cv))
  call : ∀ (fz : List Addr) (k : Nat) (args : List AV) (cargs : List Value) (σ : St) (Q : AV → St → Prop) (s : Shared) (m : Str → Option Value) (ad : List Addr) (news : Led),
    0 < s.toks → Rel { C with fz := fz } σ s.heap m ad news → RVs C.base C.fa ad news args cargs → C.fns k args σ.objs (fun v objs => Q v { σ with objs := objs }) → Wp C (call (.ref (C.fa.addr k)) cargs) (PostV { C with fz := fz } Q s ad news) s
theorem CxOK.fz {C : Cx} (ok : CxOK C) (f : List Addr) : CxOK { C with fz := f } :=
  ⟨ok.hh, ok.htop, ok.units, ok.kind, ok.nodup, ok.locs, ok.cellinj, ok.cellat, ok.g, ok.b, ok.nb, ok.eg, ok.eb, ok.globs, ok.call⟩

section
variable {base : Heap} {fa : FA} {ad : List Addr} {news : Led}
theorem RVs.length : ∀ {l : List AV} {c : List Value}, RVs base fa ad news l c → l.length = c.length
  | _, _, .nil => rfl
  | _, _, .cons _ _ _ _ _ hs => by simp [hs.length]
theorem RVs.append : ∀ {l : List AV} {c : List Value} {l' : List AV} {c' : List Value}, RVs base fa ad news l c → RVs base fa ad news l' c' → RVs base fa ad news (l ++ l') (c ++ c')
  | _, _, _, _, .nil, k => k
  | _, _, _, _, .cons v vs c cs h hs, k => .cons _ _ _ _ h (hs.append k)
theorem RVs.drop : ∀ {l : List AV} {c : List Value} (n : Nat), RVs base fa ad news l c → RVs base fa ad news (l.drop n) (c.drop n)
  | _, _, 0, h => by simpa using h
  | _, _, n + 1, .nil => by simpa using RVs.nil
  | _, _, n + 1, .cons v vs c cs h hs => by simpa using hs.drop n
theorem RVs.take : ∀ {l : List AV} {c : List Value} (n : Nat), RVs base fa ad news l c → RVs base fa ad news (l.take n) (c.take n)
  | _, _, 0, h => by simpa using RVs.nil
  | _, _, n + 1, .nil => by simpa using RVs.nil
  | _, _, n + 1, .cons v vs c cs h hs => by simpa using RVs.cons _ _ _ _ h (hs.take n)
theorem RVs.pick {l : List AV} {c : List Value} (lo hi : Option Int) (h : RVs base fa ad news l c) : RVs base fa ad news (pick l lo hi) (kms_pick c lo hi) := by
  unfold Mine.pick kms_pick
  rw [← h.length]
  exact (h.drop _).take _
theorem RVs.get : ∀ {l : List AV} {c : List Value} (i : Nat) (v : AV), RVs base fa ad news l c → l[i]? = some v → ∃ cv, c[i]? = some cv ∧ RV base fa ad news v cv
  | _, _, _, _, .nil, h => by simp at h
  | _, _, 0, v, .cons v' vs c cs h hs, e => by
    simp only [List.getElem?_cons_zero, Option.some.injEq] at e
    subst e
    exact ⟨c, rfl, h⟩
  | _, _, i + 1, v, .cons v' vs c cs h hs, e => by
    simp only [List.getElem?_cons_succ] at e ⊢
    exact hs.get i v e
theorem RVs.set : ∀ {l : List AV} {c : List Value} (i : Nat) {v : AV} {cv : Value}, RVs base fa ad news l c → RV base fa ad news v cv → RVs base fa ad news (l.set i v) (c.set i cv)
  | _, _, _, _, _, .nil, _ => .nil
  | _, _, 0, _, _, .cons v' vs c cs h hs, r => .cons _ _ _ _ r hs
  | _, _, i + 1, _, _, .cons v' vs c cs h hs, r => .cons _ _ _ _ h (hs.set i r)
theorem RVs.ints : ∀ {l : List AV} {c : List Value} {ns : List Int}, RVs base fa ad news l c → intsOf l = some ns → IntsAre c ns
  | _, _, _, .nil, e => by cases e; exact .nil
  | _, _, ns, .cons v vs c cs h hs, e => by
    cases h <;> first | (simp [intsOf] at e; done) | skip
    rename_i i t
    simp only [intsOf, Option.map_eq_some_iff] at e
    obtain ⟨r, hr, rfl⟩ := e
    exact .cons _ _ (hs.ints hr)
end

section
variable {C : Cx} {σ : St} {s : Shared} {m : Str → Option Value} {ad : List Addr} {news : Led}

theorem Rel.lt (R : Rel C σ s.heap m ad news) {i : Nat} {a : Addr} (h : ad[i]? = some a) : a < s.heap.objs.size := by
  have hi : i < σ.objs.length := by
    have := (List.getElem?_eq_some_iff.mp h).1
    rw [R.M.len] at this
    exact this
  obtain ⟨a', items, n, ha, hd, _⟩ := R.M.obj i _ (List.getElem?_eq_getElem hi)
  rw [h] at ha
  cases ha
  exact Heap.lt_size (hd.1.get R)
theorem Rel.fz_lt (R : Rel C σ s.heap m ad news) {a : Addr} (h : a ∈ C.fz) : a < s.heap.objs.size := by
  obtain ⟨o, ho, _⟩ := R.M.fzin a h
  exact Heap.lt_size (ho.get R)

theorem VarAt.mono {news' : Led} {x : Str} {cv : Value} (h : VarAt C m news x cv) (k : ∀ p ∈ news, p ∈ news') : VarAt C m news' x cv := by
  unfold VarAt at h ⊢
  split
  · rename_i hx
    rw [if_pos hx] at h
    obtain ⟨c, o, h1, h2, h3⟩ := h
    exact ⟨c, o, h1, h2.elim (fun y => .inl (k _ y)) .inr, h3⟩
  · rename_i hx
    rw [if_neg hx] at h
    exact h
theorem Held.mono {base : Heap} {news news' : Led} {a : Addr} {o : Obj} (h : Held base news a o) (k : ∀ p ∈ news, p ∈ news') : Held base news' a o := h.elim (fun y => .inl (k _ y)) .inr
theorem RelM.mono {news' : Led} (R : RelM C σ m ad news) (k : ∀ p ∈ news, p ∈ news') : RelM C σ m ad news' := by
  have l : Le [] ad news ad news' := .all (fun _ _ h => h) k
  refine ⟨fun n v h => ?_, R.len, fun i l' h => ?_, fun i h => ?_, R.inj, fun a h => ?_, fun hc x hx => ?_⟩
  · obtain ⟨x, cv, h1, h2, h3⟩ := R.loc n v h
    exact ⟨x, cv, h1, h2.mono k, h3.le l⟩
  · obtain ⟨a, items, o, h1, h2, h3⟩ := R.obj i l' h
    exact ⟨a, items, o, h1, ⟨h2.1.mono k, h2.2⟩, h3.le l⟩
  · obtain ⟨a, o, h1, h2, h3⟩ := R.own i h
    exact ⟨a, o, h1, ⟨k _ h2.1, h2.2⟩, h3⟩
  · obtain ⟨o, ho, hL⟩ := R.fzin a h
    exact ⟨o, ho.mono k, hL⟩
  · obtain ⟨c, o, h1, h2, h3⟩ := R.cells hc x hx
    exact ⟨c, o, h1, k _ h2, h3⟩

theorem Rel.heap (R : Rel C σ s.heap m ad news) {h' : Heap} (F : Fr C.base C.env.locals h' m) (N : News C.base C.env.locals h' news) : Rel C σ h' m ad news := ⟨F, N, R.M⟩
theorem Rel.more (R : Rel C σ s.heap m ad news) {h' : Heap} {p : Addr × Obj} (F : Fr C.base C.env.locals h' m) (N : News C.base C.env.locals h' (p :: news)) : Rel C σ h' m ad (p :: news) :=
  ⟨F, N, R.M.mono fun _ h => .tail _ h⟩
theorem RelM.alloc (R : RelM C σ m ad news) {D : Addr} {n : Nat} {l : List AV} {items : List Value} (hD : ∀ (i : Nat), ad[i]? ≠ some D) (hf : D ∉ C.fz) (hl : RVs C.base C.fa ad news l items) :
    RelM C (σ.alloc l) m (ad ++ [D]) ((D, lstObj items n) :: news) := by
  have R1 := R.mono (news' := (D, lstObj items n) :: news) fun _ h => .tail _ h
  have l1 : Le [] ad ((D, lstObj items n) :: news) (ad ++ [D]) ((D, lstObj items n) :: news) := .all snoc_pre fun _ h => h
  refine ⟨fun n v h => ?_, by simp [St.alloc, R.len], fun i k h => ?_, fun i h => ?_, ?_, R1.fzin, R1.cells⟩
  · obtain ⟨x, cv, h1, h2, h3⟩ := R1.loc n v h
    exact ⟨x, cv, h1, h2, h3.le l1⟩
  · by_cases hi : i < σ.objs.length
    · have h' : σ.objs[i]? = some k := by
        simp only [St.alloc] at h
        rw [List.getElem?_append_left hi] at h
        exact h
      obtain ⟨a, its, o, h1, h2, h3⟩ := R1.obj i k h'
      exact ⟨a, its, o, snoc_pre i a h1, h2, h3.le l1⟩
    · have hi2 : i = σ.objs.length := by
        have := (List.getElem?_eq_some_iff.mp h).1
        simp only [St.alloc, List.length_append, List.length_cons, List.length_nil] at this
        (first | lia | omega)
      subst hi2
      simp only [St.alloc, List.getElem?_concat_length, Option.some.injEq] at h
      subst h
      refine ⟨D, items, _, ?_, ⟨.inl (.head _), rfl, n, rfl⟩, hl.le Le.snoc (fz := [])⟩
      rw [← R.len, List.getElem?_concat_length]
  · rcases List.mem_cons.mp h with e | hm
    · subst e
      exact ⟨D, _, by rw [← R.len, List.getElem?_concat_length], ⟨.head _, items, n, rfl⟩, hf⟩
    · obtain ⟨a, o, ha, ho, hf'⟩ := R1.own i hm
      exact ⟨a, o, snoc_pre i a ha, ho, hf'⟩
  · intro i j a hi hj
    have key : ∀ i : Nat, (ad ++ [D])[i]? = some a → (i < ad.length ∧ ad[i]? = some a) ∨ (i = ad.length ∧ a = D) := by
      intro i hi
      by_cases h : i < ad.length
      · rw [List.getElem?_append_left h] at hi
        exact .inl ⟨h, hi⟩
      · have hi2 : i = ad.length := by
          have := (List.getElem?_eq_some_iff.mp hi).1
          simp only [List.length_append, List.length_cons, List.length_nil] at this
          (first | lia | omega)
        subst hi2
        simp only [List.getElem?_concat_length, Option.some.injEq] at hi
        exact .inr ⟨rfl, hi.symm⟩
    rcases key i hi with ⟨h1, h2⟩ | ⟨h1, h2⟩ <;> rcases key j hj with ⟨h3, h4⟩ | ⟨h3, h4⟩
    · exact R.inj i j a h2 h4
    · subst h4; exact absurd h2 (hD i)
    · subst h2; exact absurd h4 (hD j)
    · (first | lia | omega)
theorem Rel.alloc (R : Rel C σ s.heap m ad news) {h' : Heap} {D : Addr} {n : Nat} {l : List AV} {items : List Value} (F : Fr C.base C.env.locals h' m) (N : News C.base C.env.locals h' ((D, lstObj items n) :: news))
    (hD : s.heap.objs.size ≤ D) (hl : RVs C.base C.fa ad news l items) : Rel C (σ.alloc l) h' m (ad ++ [D]) ((D, lstObj items n) :: news) :=
  ⟨F, N, R.M.alloc (fun i h => absurd (R.lt h) (Nat.not_lt.mpr hD)) (fun h => absurd (R.fz_lt h) (Nat.not_lt.mpr hD)) hl⟩

theorem isList {i : Nat} {a : Addr} {l : List AV} (R : Rel C σ s.heap m ad news) (h : σ.objs[i]? = some l) (ha : ad[i]? = some a) : ∃ items : List Value, s.heap.IsList a items.toArray ∧ RVs C.base C.fa ad news l items := by
  obtain ⟨a', items, n, h1, h2, h3⟩ := R.M.obj i l h
  rw [ha] at h1
  cases h1
  exact ⟨items, ⟨_, h2.1.get R, h2.2⟩, h3⟩

theorem binL_sound {op : Operator} {a b : AV} {ca cb : Value} {Q : AV → St → Prop} (T : 0 < s.toks) (R : Rel C σ s.heap m ad news) (ra : RV C.base C.fa ad news a ca) (rb : RV C.base C.fa ad news b cb) (ok : CxOK C)
    (q : binL op a b σ Q) : Wp C (binaryOp op ca cb) (PostV C Q s ad news) s := by
  unfold binL at q
  split at q
  · obtain ⟨l, k, h1, h2, hz, q⟩ := q
    cases ra with | lst _ x hx => cases rb with | lst _ y hy =>
    obtain ⟨i1, L1, r1⟩ := isList R h1 hx
    obtain ⟨i2, L2, r2⟩ := isList R h2 hy
    refine add_lists R.F R.N L1 L2 (fun h' F' N' => ?_) (by rw [← r1.length, ← r2.length]; exact hz)
    refine ⟨_, _, m, ad ++ [s.heap.objs.size], _, q, .lst _ _ ?_, R.alloc F' N' (Nat.le_refl _) (r1.append r2), Le.snoc, Rest.heap⟩
    rw [← R.M.len, List.getElem?_concat_length]
  · cases ra with | tup l i1 a1 n1 g1 r1 => cases rb with | tup k i2 a2 n2 g2 r2 =>
    have T1 : IsTup s.heap a1 i1.toArray := ⟨_, g1.get R, rfl, n1, rfl⟩
    have T2 : IsTup s.heap a2 i2.toArray := ⟨_, g2.get R, rfl, n2, rfl⟩
    have e1 := r1.length
    have e2 := r2.length
    refine add_tuples R.F R.N T1 T2 (fun h => ?_) (fun _ h => ?_) (fun _ _ h' F' N' => ?_) (by rw [← e1, ← e2]; exact q.1.2.2)
    · rw [h] at e1; have := q.1.1; rw [e1] at this; cases this
    · rw [h] at e2; have := q.1.2.1; rw [e2] at this; cases this
    · exact ⟨_, _, m, ad, _, q.2, .tup _ (i1 ++ i2) _ 0 (.inl (.head _)) ((r1.append r2).le (fz := []) Le.cons), R.more F' N', Le.cons, Rest.heap⟩
  · exact bin_sound T R ra rb ok.hh q

theorem RV.flt {base : Heap} {fa : FA} {ad : List Addr} {news : Led} {v : AV} {c : Value} {x : UInt64} (r : RV base fa ad news v c) (h : v.flt? = some x) : ∃ t, c = .float x t ∧ t ≠ 0 := by
  cases r <;> first | (cases h; done) | skip
  rename_i t ht
  cases h
  exact ⟨t, rfl, ht⟩
theorem noneKeeps {h h' : Heap} (n : NoneBooked h) (k : ∀ b o, h.get? b = some o → h'.get? b = some o) : NoneBooked h' := by
  obtain ⟨mc, h1, h2⟩ := n
  exact ⟨mc, h1.keeps k, h2⟩
theorem eqFlat_at {base : Heap} {fa : FA} {ad : List Addr} {news : Led} {A : Around} {a b : AV} {ca cb : Value} (h : eqFlat a b) (r1 : RV base fa ad news a ca) (r2 : RV base fa ad news b cb) (nb : NoneBooked s.heap) : SeqAt.EqAt A s ca cb true := by
  rcases h with ⟨x, rfl, rfl⟩ | ⟨x, y, rfl, rfl, hc⟩
  · cases r1 with | int _ t => cases r2 with | int _ u =>
    have := SeqAt.EqAt.int_int (A := A) (s := s) x t x u
    rwa [beq_self_eq_true] at this
  · obtain ⟨t, rfl, ht⟩ := r1.flt rfl
    obtain ⟨u, rfl, hu⟩ := r2.flt rfl
    exact eqAt_float ht hu nb hc
theorem eqAll_at {base : Heap} {fa : FA} {ad : List Addr} {news : Led} {A : Around} {P : AV → AV → Prop} (hP : ∀ a b ca cb, P a b → RV base fa ad news a ca → RV base fa ad news b cb → SeqAt.EqAt A s ca cb true) : ∀ {l k : List AV} {i1 i2 : List Value}, eqAll P l k → RVs base fa ad news l i1 → RVs base fa ad news k i2 →
    i1.length = i2.length ∧ ∀ j (h1 : j < i1.length) (h2 : j < i2.length), SeqAt.EqAt A s i1[j] i2[j] true
  | [], [], _, _, _, .nil, .nil => ⟨rfl, fun j h1 _ => absurd h1 (Nat.not_lt_zero j)⟩
  | [], _ :: _, _, _, h, _, _ => h.elim
  | _ :: _, [], _, _, h, _, _ => h.elim
  | a :: l, b :: k, _, _, h, .cons _ _ c cs r rs, .cons _ _ c' cs' r' rs' => by
    obtain ⟨e, f⟩ := eqAll_at hP h.2 rs rs'
    refine ⟨congrArg Nat.succ e, fun j h1 h2 => ?_⟩
    cases j with
    | zero => exact hP _ _ _ _ h.1 r r'
    | succ j => exact f j (Nat.lt_of_succ_lt_succ h1) (Nat.lt_of_succ_lt_succ h2)
theorem all_true (n : Nat) : (List.range n).all (fun _ => true) = true := List.all_eq_true.mpr fun _ _ => rfl
theorem lists_at {base : Heap} {fa : FA} {ad : List Addr} {news : Led} {A : Around} {P : AV → AV → Prop} (hP : ∀ a b ca cb, P a b → RV base fa ad news a ca → RV base fa ad news b cb → SeqAt.EqAt A.in1 s ca cb true) {l k : List AV} {i1 i2 : List Value} {a1 a2 : Addr} (h : eqAll P l k) (L1 : s.heap.IsList a1 i1.toArray) (L2 : s.heap.IsList a2 i2.toArray) (r1 : RVs base fa ad news l i1) (r2 : RVs base fa ad news k i2) (hu : A.units < cLine) :
    SeqAt.RcAt A s (.ref a1) (.ref a2) true ∧ SeqAt.RcNeAt A s (.ref a1) (.ref a2) false := by
  obtain ⟨e, f⟩ := eqAll_at hP h r1 r2
  have g : ∀ j (h1 : j < i1.toArray.size) (h2 : j < i2.toArray.size), SeqAt.EqAt A.in1 s i1.toArray[j] i2.toArray[j] ((fun _ => true) j) := fun j h1 h2 => f j (by simpa using h1) (by simpa using h2)
  have q1 := SeqAt.RcAt.lists L1 L2 (by simp [e]) hu g
  have q2 := SeqAt.RcNeAt.lists L1 L2 (by simp [e]) hu g
  rw [all_true] at q1 q2
  exact ⟨q1, q2⟩
theorem eqNest_at {A : Around} {a b : AV} {ca cb : Value} (R : Rel C σ s.heap m ad news) (nb : NoneBooked s.heap) (hu : A.units < cLine) (h : eqNest σ.objs a b) (r1 : RV C.base C.fa ad news a ca) (r2 : RV C.base C.fa ad news b cb) : SeqAt.EqAt A s ca cb true := by
  rcases h with h | ⟨i, j, l, k, ⟨rfl, rfl⟩, ⟨h1, h2⟩, h⟩
  · exact eqFlat_at h r1 r2 nb
  · cases r1 with | lst _ x hx => cases r2 with | lst _ y hy =>
    obtain ⟨i1, L1, q1⟩ := isList R h1 hx
    obtain ⟨i2, L2, q2⟩ := isList R h2 hy
    by_cases e : x = y
    · subst e; exact SeqAt.EqAt.same _
    · exact SeqAt.EqAt.of_refs e (lists_at (fun _ _ _ _ h r1 r2 => eqFlat_at h r1 r2 nb) h L1 L2 q1 q2 hu).1
theorem cmpL_sound {op : CmpOp} {a b : AV} {ca cb : Value} {Q : Bool → Prop} (R : Rel C σ s.heap m ad news) (ra : RV C.base C.fa ad news a ca) (rb : RV C.base C.fa ad news b cb) (ok : CxOK C)
    (q : cmpL op a b σ Q) : Wp C (compareOp op ca cb) (fun cv s' => ∃ c, cv = .bool c ∧ s' = s ∧ Q c) s := by
  unfold cmpL at q
  split at q
  · obtain ⟨l, k, ⟨h1, h2⟩, c, hc, q⟩ := q
    cases ra with | lst _ x hx => cases rb with | lst _ y hy =>
    obtain ⟨i1, L1, r1⟩ := isList R h1 hx
    obtain ⟨i2, L2, r2⟩ := isList R h2 hy
    have hu : C.A.units + 1 < cLine := by have := ok.units; omega
    have hu0 : C.A.units < cLine := Nat.lt_of_succ_lt hu
    have g : SeqAt.RcAt C.A s (.ref x) (.ref y) c ∧ SeqAt.RcNeAt C.A s (.ref x) (.ref y) (!c) := by
      rcases hc with ⟨rfl, h⟩ | ⟨rfl, h⟩
      · exact lists_at (fun _ _ _ _ h r1 r2 => eqNest_at R (noneKeeps ok.nb R.F.keep) hu h r1 r2) h L1 L2 r1 r2 hu0
      · have hs : (i1.toArray.size != i2.toArray.size) = true := by
          rw [List.size_toArray, List.size_toArray, ← r1.length, ← r2.length]
          exact bne_iff_ne.mpr h
        exact ⟨SeqAt.RcAt.lists_lengths L1 L2 hs hu0, SeqAt.RcNeAt.lists_lengths L1 L2 hs hu0⟩
    rcases q with ⟨rfl, q⟩ | ⟨rfl, q⟩
    · exact g.1 _ _ _ _ ⟨_, rfl, rfl, q⟩
    · exact g.2 _ _ _ _ ⟨_, rfl, rfl, q⟩
  · exact cmp_sound R ra rb ok.hh q

theorem truth_sound {v : AV} {cv : Value} {b : Bool} (R : Rel C σ s.heap m ad news) (rv : RV C.base C.fa ad news v cv) (q : truth σ v = some b) : Wp C (truthy cv) (fun c s' => (∃ tk, s' = { s with toks := tk }) ∧ c = b) s := by
  unfold truth at q
  split at q
  · cases q; cases rv; exact wpAny_truthy_bool ⟨⟨_, rfl⟩, rfl⟩
  · cases q; cases rv; exact PySem.P.truthy_int ⟨⟨_, rfl⟩, rfl⟩
  · rename_i i
    cases rv with | lst _ x hx =>
    cases hl : σ.objs[i]? with
    | none => rw [hl] at q; cases q
    | some l =>
      rw [hl] at q
      simp only [Option.bind_some] at q
      split at q
      · rename_i hz
        cases q
        obtain ⟨items, L1, r1⟩ := isList R hl hx
        have hz' := r1.length
        refine wpAny_truthy_list L1 (by simp only [List.size_toArray]; omega) ⟨⟨_, rfl⟩, ?_⟩
        cases l <;> cases items <;> simp_all
      · cases q
  · cases q

theorem sub_plain {i' : Expr} {o i : Value} (h : (match i' with | .Slice .. => false | _ => true) = true) : subscripted i' false o i = operate [o, i] (getItem o i) := by
  cases i' <;> first | rfl | cases h

theorem seqIdx {k : Int} {n : Nat} (h0 : 0 ≤ k) (h : k.toNat < n) : seqIndex? k n = some k.toNat := by
  unfold seqIndex?
  simp only [if_neg (Int.not_lt.mpr h0)]
  rw [if_pos (by simp; omega)]
theorem sub_sound {value slice : Expr} {o i : AV} {co ci : Value} {Q : AV → St → Prop} (R : Rel C σ s.heap m ad news) (ro : RV C.base C.fa ad news o co) (ri : RV C.base C.fa ad news i ci)
    (hp : (match slice with | .Slice .. => false | _ => true) = true) (q : subW o i σ Q) : Wp C (subscriptTail value slice co ci) (PostV C Q s ad news) s := by
  unfold subW at q
  split at q
  · obtain ⟨l, v, hl, hk, q⟩ := q
    cases ro with | lst _ x hx =>
    cases ri
    obtain ⟨items, L1, r1⟩ := isList R hl hx
    rcases hk with ⟨h0, h1, hv⟩ | ⟨rfl, hv⟩
    · obtain ⟨cv, hcv, rv⟩ := r1.get _ _ hv
      exact tail_any L1.typeIs slot_list_getitem.lookup (wpAny_getItem_list L1 h0 h1 (by simpa using hcv) (PostV.same R q rv)) (sub_plain hp)
    · rw [List.getLast?_eq_getElem?] at hv
      obtain ⟨cv, hcv, rv⟩ := r1.get _ _ hv
      have e := r1.length
      have hl := (List.getElem?_eq_some_iff.mp hcv).1
      exact tail_any L1.typeIs slot_list_getitem.lookup (wpAny_getItem_list_neg L1 (by decide) (by rw [List.size_toArray]; omega) (by decide) (x := cv) (by
        rw [List.size_toArray, List.getElem?_toArray, show (-1 + (items.length : Int)).toNat = l.length - 1 by omega]
        exact hcv) (PostV.same R q rv)) (sub_plain hp)
  · obtain ⟨v, hk, hv, q⟩ := q
    cases ro with | tup l items a n hh r1 =>
    cases ri
    obtain ⟨cv, hcv, rv⟩ := r1.get _ _ hv
    have hT : IsTup s.heap a items.toArray := ⟨_, hh.get R, rfl, n, rfl⟩
    have hlt := (List.getElem?_eq_some_iff.mp hcv).1
    exact tail_any hT.typeIs slot_tuple_getitem.lookup (PyProof.Rows.getItem_tuple hT (Int.le_trans (by decide) hk.1) hk.2 (seqIdx hk.1 hlt) (by simpa using hcv) (PostV.same R q rv)) (sub_plain hp)
  · exact q.elim

theorem slice_sound {value lower upper : Option Expr} {e : Expr} {p : Pos} {o : AV} {co vl vu : Value} {lo hi : Option Int} {Q : AV → St → Prop} (R : Rel C σ s.heap m ad news) (ro : RV C.base C.fa ad news o co)
    (pl : IsPart vl lo) (pu : IsPart vu hi) (q : sliceW o lo hi σ Q) :
    Wp C (subscriptTail e (.Slice lower upper none p) co (.ref s.heap.objs.size)) (PostV C Q s ad news) { s with heap := s.heap.push { cls := .type "slice", data := .fields #[vl, vu, .none] } } := by
  unfold sliceW at q
  split at q
  · obtain ⟨l, hl, hz, q⟩ := q
    cases ro with | lst _ x hx =>
    obtain ⟨items, L1, r1⟩ := isList R hl hx
    refine tail_any (Heap.IsList.typeIs (s := { s with heap := s.heap.push { cls := .type "slice", data := .fields #[vl, vu, .none] } }) (L1.push _)) slot_list_getitem.lookup
      (wpAny_getItem_list_slice (L1.push _) (Heap.IsSliceOf.new ..) pl pu .none (by simp) ?_ (by rw [List.size_toArray, ← r1.length]; exact hz)) rfl
    have N1 := News.push (R.F.push { cls := .type "slice", data := .fields #[vl, vu, .none] }) (R.N.grown fun _ _ e => Heap.get?_push_of_some _ e) { cls := .type "list", data := .seq (slicePick items.toArray lo hi none) }
    have F1 := (R.F.push { cls := .type "slice", data := .fields #[vl, vu, .none] }).push { cls := .type "list", data := .seq (slicePick items.toArray lo hi none) }
    rw [Heap.size_push] at N1
    show PostV C Q s ad news (.ref (s.heap.push _).objs.size) _
    rw [Heap.size_push]
    rw [kms_pick_eq] at *
    refine ⟨_, _, m, ad ++ [s.heap.objs.size + 1], _, q, .lst _ _ ?_, R.alloc F1 N1 (Nat.le_succ _) (r1.pick lo hi), Le.snoc, Rest.heap⟩
    rw [← R.M.len, List.getElem?_concat_length]
  · obtain ⟨k, ⟨rfl, rfl⟩, ⟨h1, h2, h3⟩, q⟩ := q
    cases ro with | tup l items a n hh r1 =>
    cases pl with | int _ u =>
    cases pu
    have e := r1.length
    have ht' : IsTup (s.heap.push { cls := .type "slice", data := .fields #[.int k u, .none, .none] }) a items.toArray := IsTup.keeps ⟨_, hh.get R, rfl, n, rfl⟩ fun _ _ e => Heap.get?_push_of_some _ e
    refine tail_any (IsTup.typeIs (s := { s with heap := s.heap.push { cls := .type "slice", data := .fields #[.int k u, .none, .none] } }) ht') slot_tuple_getitem.lookup
      (getItem_tuple_from ht' (Heap.IsSliceOf.new ..) h1 (by rw [List.size_toArray, ← e]; exact h2) ?_ (by rw [List.size_toArray, ← e]; exact h3)) rfl
    have N1 := News.push (R.F.push { cls := .type "slice", data := .fields #[.int k u, .none, .none] }) (R.N.grown fun _ _ e => Heap.get?_push_of_some _ e) { cls := .type "tuple", data := .seq (items.toArray.toList.drop k).toArray }
    have F1 := (R.F.push { cls := .type "slice", data := .fields #[.int k u, .none, .none] }).push { cls := .type "tuple", data := .seq (items.toArray.toList.drop k).toArray }
    exact ⟨_, _, m, ad, _, q, .tup _ (items.drop k) _ 0 (.inl (.head _)) ((r1.drop k).le (fz := []) Le.cons), R.more F1 N1, Le.cons, Rest.heap⟩
  · exact q.elim

theorem args1 {base : Heap} {fa : FA} {ad : List Addr} {news : Led} {a : AV} {cs : List Value} (h : RVs base fa ad news [a] cs) : ∃ c, cs = [c] ∧ RV base fa ad news a c := by
  cases h with | cons _ _ c _ r rs => cases rs; exact ⟨c, rfl, r⟩
theorem args2 {base : Heap} {fa : FA} {ad : List Addr} {news : Led} {a b : AV} {cs : List Value} (h : RVs base fa ad news [a, b] cs) : ∃ c d, cs = [c, d] ∧ RV base fa ad news a c ∧ RV base fa ad news b d := by
  cases h with | cons _ _ c _ r rs => obtain ⟨d, rfl, r2⟩ := args1 rs; exact ⟨c, d, rfl, r, r2⟩
theorem args3 {base : Heap} {fa : FA} {ad : List Addr} {news : Led} {a b e : AV} {cs : List Value} (h : RVs base fa ad news [a, b, e] cs) : ∃ c d f, cs = [c, d, f] ∧ RV base fa ad news a c ∧ RV base fa ad news b d ∧ RV base fa ad news e f := by
  cases h with | cons _ _ c _ r rs => obtain ⟨d, f, rfl, r2, r3⟩ := args2 rs; exact ⟨c, d, f, rfl, r, r2, r3⟩
theorem len_sound {args : List AV} {cargs : List Value} {Q : AV → St → Prop} (R : Rel C σ s.heap m ad news) (ra : RVs C.base C.fa ad news args cargs) (ok : CxOK C)
    (q : lenW args σ Q) : Wp C (call (.builtin "len") cargs) (PostV C Q s ad news) s := by
  unfold lenW at q
  split at q <;> first | exact False.elim q | skip
  · obtain ⟨l, hl, hz, q⟩ := q
    obtain ⟨_, rfl, r⟩ := args1 ra
    cases r with | lst _ x hx =>
    obtain ⟨items, L1, r1⟩ := isList R hl hx
    have hz' := r1.length
    refine PyProof.Rows.len_list L1 (by simp only [List.size_toArray]; omega) ?_
    rw [List.size_toArray, ← r1.length]
    exact PostV.here R q (.int _ _)
theorem min_sound {args : List AV} {cargs : List Value} {Q : AV → St → Prop} (R : Rel C σ s.heap m ad news) (ra : RVs C.base C.fa ad news args cargs) (ok : CxOK C)
    (q : minW args σ Q) : Wp C (call (.builtin "min") cargs) (PostV C Q s ad news) s := by
  unfold minW at q
  split at q <;> first | exact False.elim q | skip
  · obtain ⟨_, _, _, rfl, r, r2, r3⟩ := args3 ra
    cases r; cases r2; cases r3
    refine min_three_num ok.hh (.float _ _) (.float _ _) (.float _ _) fun h' tk kp => ?_
    rename_i x y z t ht u hu v hv
    have hv : ∃ t', t' ≠ 0 ∧ min3 (.float x t) (.float y u) (.float z v) = .float (fmin3 x y z) t' := by
      unfold min3 fmin3 flt
      simp only [Flt.ltV]
      by_cases c0 : (Float64.cmp y x == some Ordering.lt) = true <;> by_cases c1 : (Float64.cmp z y == some Ordering.lt) = true <;> by_cases c2 : (Float64.cmp z x == some Ordering.lt) = true <;> simp only [c0, c1, c2, if_true, if_false, Bool.false_eq_true] <;> first | exact ⟨_, ht, rfl⟩ | exact ⟨_, hu, rfl⟩ | exact ⟨_, hv, rfl⟩
    obtain ⟨t', ht', hv⟩ := hv
    rw [hv]
    exact ⟨_, _, m, ad, news, q, .float _ _ ht', R.heap (R.F.grownK kp) (R.N.grown kp), Le.refl, Rest.mk'⟩
theorem max_sound {args : List AV} {cargs : List Value} {Q : AV → St → Prop} (R : Rel C σ s.heap m ad news) (ra : RVs C.base C.fa ad news args cargs) (ok : CxOK C)
    (q : maxW args σ Q) : Wp C (call (.builtin "max") cargs) (PostV C Q s ad news) s := by
  unfold maxW at q
  split at q <;> first | exact False.elim q | skip
  · obtain ⟨_, _, _, rfl, r, r2, r3⟩ := args3 ra
    cases r; cases r2; cases r3
    refine max_three_num ok.hh (.float _ _) (.float _ _) (.float _ _) fun h' tk kp => ?_
    rename_i x y z t ht u hu v hv
    have hv : ∃ t', t' ≠ 0 ∧ max3 (.float x t) (.float y u) (.float z v) = .float (fmax3 x y z) t' := by
      unfold max3 fmax3 flt
      simp only [Flt.ltV]
      by_cases c0 : (Float64.cmp x y == some Ordering.lt) = true <;> by_cases c1 : (Float64.cmp y z == some Ordering.lt) = true <;> by_cases c2 : (Float64.cmp x z == some Ordering.lt) = true <;> simp only [c0, c1, c2, if_true, if_false, Bool.false_eq_true] <;> first | exact ⟨_, ht, rfl⟩ | exact ⟨_, hu, rfl⟩ | exact ⟨_, hv, rfl⟩
    obtain ⟨t', ht', hv⟩ := hv
    rw [hv]
    exact ⟨_, _, m, ad, news, q, .float _ _ ht', R.heap (R.F.grownK kp) (R.N.grown kp), Le.refl, Rest.mk'⟩
theorem RVs.mem {base : Heap} {fa : FA} {ad : List Addr} {news : Led} : ∀ {l : List AV} {c : List Value}, RVs base fa ad news l c → ∀ v ∈ c, ∃ a ∈ l, RV base fa ad news a v
  | _, _, .nil, _, hv => nomatch hv
  | _, _, .cons a _ _ _ r rs, v, hv => by
    rcases List.mem_cons.mp hv with rfl | hv
    · exact ⟨a, .head _, r⟩
    · obtain ⟨b, hb, rb⟩ := rs.mem v hv
      exact ⟨b, .tail _ hb, rb⟩
theorem RVs.shuffle {base : Heap} {fa : FA} {ad : List Addr} {news : Led} : ∀ {c out : List Value}, out.Perm c → ∀ {l : List AV}, RVs base fa ad news l c → ∃ l' : List AV, RVs base fa ad news l' out ∧ l'.Perm l := by
  intro c out h
  induction h with
  | nil => intro l r; cases r; exact ⟨[], .nil, .refl _⟩
  | cons x _ ih =>
    intro l r
    cases r with | cons a as _ _ r1 r2 =>
    obtain ⟨l', h1, h2⟩ := ih r2
    exact ⟨a :: l', .cons _ _ _ _ r1 h1, h2.cons a⟩
  | swap x y _ =>
    intro l r
    cases r with | cons a as _ _ r1 r2 =>
    cases r2 with | cons b bs _ _ r3 r4 =>
    exact ⟨b :: a :: bs, .cons _ _ _ _ r3 (.cons _ _ _ _ r1 r4), .swap _ _ _⟩
  | trans _ _ ih1 ih2 =>
    intro l r
    obtain ⟨l1, a1, b1⟩ := ih2 r
    obtain ⟨l2, a2, b2⟩ := ih1 a1
    exact ⟨l2, a2, b2.trans b1⟩
theorem perm_map_inv {α β : Type} {f : α → β} : ∀ {l' l : List β}, l'.Perm l → ∀ {xs : List α}, l = xs.map f → ∃ ys : List α, ys.Perm xs ∧ l' = ys.map f := by
  intro l' l h
  induction h with
  | nil => intro xs e; exact ⟨[], by rw [List.map_eq_nil_iff.mp e.symm], rfl⟩
  | cons x _ ih =>
    intro xs e
    cases xs with
    | nil => cases e
    | cons a as =>
      obtain ⟨h1, h2⟩ := List.cons.inj e
      obtain ⟨ys, q1, q2⟩ := ih h2
      exact ⟨a :: ys, q1.cons a, by rw [h1, q2]; rfl⟩
  | swap x y _ =>
    intro xs e
    match xs, e with
    | a :: b :: as, e =>
      obtain ⟨h1, h2⟩ := List.cons.inj e
      obtain ⟨h2, h3⟩ := List.cons.inj h2
      exact ⟨b :: a :: as, .swap _ _ _, by rw [h1, h2, h3]; rfl⟩
  | trans _ _ ih1 ih2 =>
    intro xs e
    obtain ⟨ys, q1, q2⟩ := ih2 e
    obtain ⟨zs, q3, q4⟩ := ih1 q2
    exact ⟨zs, q3.trans q1, q4⟩
theorem RVs.back {base : Heap} {fa : FA} {ad : List Addr} {news : Led} : ∀ {l : List AV} {c : List Value}, RVs base fa ad news l c → ∀ a ∈ l, ∃ v ∈ c, RV base fa ad news a v
  | _, _, .nil, _, h => nomatch h
  | _, _, .cons a as c cs r rs, b, h => by
    rcases List.mem_cons.mp h with rfl | h
    · exact ⟨c, .head _, r⟩
    · obtain ⟨v, hv, rv⟩ := rs.back b h
      exact ⟨v, .tail _ hv, rv⟩
theorem RVs.ranked {base : Heap} {fa : FA} {ad : List Addr} {news : Led} {α : Type} {f : α → AV} {ρ : Value → Int} {g : α → Int} (hf : ∀ x v, RV base fa ad news (f x) v → ρ v = g x) : ∀ {ys : List α} {c : List Value}, RVs base fa ad news (ys.map f) c → c.Pairwise (fun x y => ρ x ≤ ρ y) → ys.Pairwise fun x y => g x ≤ g y
  | [], _, _, _ => .nil
  | y :: ys, _, .cons _ _ c cs r rs, .cons h1 h2 => .cons (fun z hz => by
      obtain ⟨v, hv, rv⟩ := rs.back (f z) (List.mem_map_of_mem hz)
      rw [← hf _ _ r, ← hf _ _ rv]
      exact h1 v hv) (rs.ranked hf h2)
theorem RVs.floats {base : Heap} {fa : FA} {ad : List Addr} {news : Led} : ∀ {xs : List UInt64} {c : List Value}, RVs base fa ad news (xs.map .float) c → ∀ v ∈ c, ∃ x ∈ xs, ∃ t, v = .float x t
  | [], _, .nil, _, hv => nomatch hv
  | x :: xs, _, .cons _ _ _ _ r rs, v, hv => by
    rcases List.mem_cons.mp hv with rfl | hv
    · obtain ⟨t, rfl, _⟩ := r.flt rfl
      exact ⟨x, .head _, t, rfl⟩
    · obtain ⟨y, hy, t, e⟩ := rs.floats v hv
      exact ⟨y, .tail _ hy, t, e⟩
noncomputable def fltRank (rank : UInt64 → Int) : Value → Int
  | .float x _ => rank x
  | _ => 0
theorem sorted_floats_sound {i : Nat} {xs : List UInt64} {rank : UInt64 → Int} {c : Value} {Q : AV → St → Prop} (R : Rel C σ s.heap m ad news) (r : RV C.base C.fa ad news (.lst i) c) (hl : σ.objs[i]? = some (xs.map .float)) (hz : 2 ≤ xs.length ∧ xs.length ≤ sizeLine)
    (hc : ∀ x ∈ xs, ∀ y ∈ xs, (Float64.cmp x y == some .lt) = decide (rank x < rank y)) (q : ∀ ys : List UInt64, ys.Perm xs → ys.Pairwise (fun x y => rank x ≤ rank y) → Q (.lst σ.objs.length) (σ.alloc (ys.map .float))) : Wp C (call (.builtin "sorted") [c]) (PostV C Q s ad news) s := by
  cases r with | lst _ x hx =>
  obtain ⟨items, L1, r1⟩ := isList R hl hx
  have e1 := r1.length
  rw [List.length_map] at e1
  have fl := r1.floats
  refine _root_.Mine.R.sorted_any (r := fltRank rank) R.F R.N L1 (by omega) (by omega) (fun A' h' hk => ?_) fun h' out e F' N' h2 => ?_
  · refine kas_kind (T := .type "float") (by omega) (fun v hv => ?_) (by decide) (by decide) ⟨rfl, fun x hx y hy E Q hq => ?_⟩
    · obtain ⟨x, _, t, rfl⟩ := fl v hv
      exact Looks.of_pure rfl
    · have mem : ∀ x ∈ pairsOf items, x.1 ∈ items := fun x hx => by
        obtain ⟨i, hi, rfl⟩ := Array.mem_iff_getElem.mp hx
        simp [pairsOf]
      obtain ⟨a, ha, t, ea⟩ := fl _ (mem x hx)
      obtain ⟨b, hb, u, eb⟩ := fl _ (mem y hy)
      rw [ea, eb] at hq ⊢
      exact oneLt_float (by rw [hc a ha b hb]; exact hq)
  · obtain ⟨l', h4, h5⟩ := r1.shuffle h2.1
    obtain ⟨ys, hy, rfl⟩ := perm_map_inv h5 rfl
    refine ⟨_, _, m, ad ++ [s.heap.objs.size + 1], _, q ys hy (h4.ranked (fun x v r => by obtain ⟨t, rfl, _⟩ := r.flt rfl; rfl) h2.2), .lst _ _ ?_, R.alloc (n := e) F' N' (Nat.le_succ _) h4, Le.snoc, Rest.heap⟩
    rw [← R.M.len, List.getElem?_concat_length]
noncomputable def TriAt (h : Heap) (v : Value) (t : Int × Int × Int) : Prop := ∃ a n i j k, v = .ref a ∧ h.get? a = some (seqObj "tuple" #[.int t.1 i, .int t.2.1 j, .int t.2.2 k] n)
noncomputable def intOf : Value → Int
  | .int n _ => n
  | _ => 0
noncomputable def firstOf : Data → Int
  | .seq xs _ => (xs[0]?.map intOf).getD 0
  | _ => 0
noncomputable def triRank (h : Heap) : Value → Int
  | .ref a => ((h.get? a).map fun o => firstOf o.data).getD 0
  | _ => 0
theorem TriAt.rank {h : Heap} {v : Value} {t : Int × Int × Int} (x : TriAt h v t) : triRank h v = t.1 := by
  obtain ⟨a, n, i, j, k, rfl, e⟩ := x
  show ((h.get? a).map fun o => firstOf o.data).getD 0 = _
  rw [e]
  rfl
theorem RV.tri {base : Heap} {fa : FA} {ad : List Addr} {news : Led} {t : Int × Int × Int} {v : Value} {h : Heap} (hh : ∀ x o, Held base news x o → h.get? x = some o) (r : RV base fa ad news (triAV t) v) : TriAt h v t := by
  cases r with | tup l items a n ho rs =>
  cases rs with | cons _ _ _ _ r1 rs =>
  cases rs with | cons _ _ _ _ r2 rs =>
  cases rs with | cons _ _ _ _ r3 rs =>
  cases rs
  cases r1; cases r2; cases r3
  exact ⟨_, _, _, _, _, rfl, hh _ _ ho⟩
theorem RVs.tris {base : Heap} {fa : FA} {ad : List Addr} {news : Led} {ts : List (Int × Int × Int)} {c : List Value} {h : Heap} (hh : ∀ x o, Held base news x o → h.get? x = some o) (rs : RVs base fa ad news (ts.map triAV) c) : ∀ v ∈ c, ∃ t ∈ ts, TriAt h v t := fun v hv => by
  obtain ⟨a, ha, ra⟩ := rs.mem v hv
  obtain ⟨t, ht, rfl⟩ := List.mem_map.mp ha
  exact ⟨t, ht, ra.tri hh⟩
theorem tri_tups {h : Heap} : ∀ {vs : List Value}, (∀ v ∈ vs, ∃ t, TriAt h v t) → ∃ fs : List Value, KatTups h vs fs ∧ fs.length = vs.length ∧ ∀ f ∈ fs, ∃ i t, f = .int i t
  | [], _ => ⟨[], KatTups.nil, rfl, fun _ hf => nomatch hf⟩
  | v :: vs, H => by
    obtain ⟨fs, h1, h2, h3⟩ := tri_tups (vs := vs) fun v hv => H v (.tail _ hv)
    obtain ⟨t, a, n, i, j, k, rfl, ho⟩ := H v (.head _)
    refine ⟨.int t.1 i :: fs, KatTups.cons ho rfl rfl rfl h1, congrArg Nat.succ h2, fun f hf => ?_⟩
    rcases List.mem_cons.mp hf with rfl | hf
    · exact ⟨_, _, rfl⟩
    · exact h3 f hf
theorem tri_lt {prog : Program} {w : World} {A : Around} {E : Value → Shared → Prop} {v v' : Value} {t t' : Int × Int × Int} {Q : Bool → Shared → Prop} (hv : TriAt s.heap v t) (hv' : TriAt s.heap v' t') (he : t.1 = t'.1 → t = t') (hq : Q (decide (t.1 < t'.1)) s) : wpAny (model prog w) A (keyLt' (tuples' true) v v') Q E s := by
  obtain ⟨a, n, i, j, k, rfl, ho⟩ := hv
  obtain ⟨a', n', i', j', k', rfl, ho'⟩ := hv'
  refine kat_lt ho rfl ho' rfl (kat_cons (wpAny_eqBool_int ?_))
  refine kat_go (fun e => ?_) fun _ => kat_no (oneLt_int hq)
  have e := he (eq_of_beq e)
  subst e
  refine kat_yes (kat_cons (wpAny_eqBool_int ?_))
  rw [beq_self_eq_true]
  refine kat_yes (kat_cons (wpAny_eqBool_int ?_))
  rw [beq_self_eq_true]
  refine kat_yes (kat_nil ?_)
  rw [decide_eq_false (Int.lt_irrefl _)] at hq
  exact hq
theorem sorted_tris_sound {i : Nat} {ts : List (Int × Int × Int)} {c : Value} {Q : AV → St → Prop} (R : Rel C σ s.heap m ad news) (r : RV C.base C.fa ad news (.lst i) c) (hl : σ.objs[i]? = some (ts.map triAV)) (hz : 2 ≤ ts.length ∧ ts.length ≤ sizeLine)
    (he : ∀ x ∈ ts, ∀ y ∈ ts, x.1 = y.1 → x = y) (q : ∀ us : List (Int × Int × Int), us.Perm ts → us.Pairwise (fun x y => x.1 ≤ y.1) → Q (.lst σ.objs.length) (σ.alloc (us.map triAV))) : Wp C (call (.builtin "sorted") [c]) (PostV C Q s ad news) s := by
  cases r with | lst _ x hx =>
  obtain ⟨items, L1, r1⟩ := isList R hl hx
  have e1 := r1.length
  rw [List.length_map] at e1
  refine _root_.Mine.R.sorted_any (r := triRank s.heap) R.F R.N L1 (by omega) (by omega) (fun A' h' hk => ?_) fun h' out e F' N' h2 => ?_
  · have tr := r1.tris (h := s.heap) fun x o ho => ho.get R
    have up : ∀ {v t}, TriAt s.heap v t → TriAt h' v t := fun ⟨a, n, i, j, k, e, ho⟩ => ⟨a, n, i, j, k, e, hk _ _ ho⟩
    obtain ⟨fs, f1, f2, f3⟩ := tri_tups (h := h') (vs := items) fun v hv => by obtain ⟨t, _, ht⟩ := tr v hv; exact ⟨t, up ht⟩
    refine kat_kind (s := { s with heap := h' }) f1 (T := .type "int") (by omega) (fun f hf => ?_) (by decide) ⟨rfl, fun x hx y hy E Q hq => ?_⟩
    · obtain ⟨i, t, rfl⟩ := f3 f hf
      exact Looks.of_pure rfl
    · have mem : ∀ x ∈ pairsOf items, x.1 ∈ items := fun x hx => by
        obtain ⟨i, hi, rfl⟩ := Array.mem_iff_getElem.mp hx
        simp [pairsOf]
      obtain ⟨t, ht, at_⟩ := tr _ (mem x hx)
      obtain ⟨u, hu, au⟩ := tr _ (mem y hy)
      rw [at_.rank, au.rank] at hq
      exact tri_lt (s := { s with heap := h' }) (up at_) (up au) (he t ht u hu) hq
  · obtain ⟨l', h4, h5⟩ := r1.shuffle h2.1
    obtain ⟨us, hu, rfl⟩ := perm_map_inv h5 rfl
    refine ⟨_, _, m, ad ++ [s.heap.objs.size + 1], _, q us hu (h4.ranked (fun x v r => (r.tri fun x o ho => ho.get R).rank) h2.2), .lst _ _ ?_, R.alloc (n := e) F' N' (Nat.le_succ _) h4, Le.snoc, Rest.heap⟩
    rw [← R.M.len, List.getElem?_concat_length]
theorem sorted_sound {args : List AV} {cargs : List Value} {Q : AV → St → Prop} (R : Rel C σ s.heap m ad news) (ra : RVs C.base C.fa ad news args cargs) (ok : CxOK C)
    (q : sortedW args σ Q) : Wp C (call (.builtin "sorted") cargs) (PostV C Q s ad news) s := by
  unfold sortedW at q
  split at q <;> first | exact False.elim q | skip
  · obtain ⟨_, rfl, r⟩ := args1 ra
    rcases q with ⟨xs, rank, hl, hz, hc, q⟩ | ⟨ts, hl, hz, he, q⟩
    · exact sorted_floats_sound R r hl hz hc q
    · exact sorted_tris_sound R r hl hz he q
theorem sum_sound {args : List AV} {cargs : List Value} {Q : AV → St → Prop} (R : Rel C σ s.heap m ad news) (ra : RVs C.base C.fa ad news args cargs) (ok : CxOK C)
    (q : sumW args σ Q) : Wp C (call (.builtin "sum") cargs) (PostV C Q s ad news) s := by
  unfold sumW at q
  split at q <;> first | exact False.elim q | skip
  · obtain ⟨l, ns, ⟨hl, hn⟩, q⟩ := q
    obtain ⟨_, rfl, r⟩ := args1 ra
    cases r with | lst _ x hx =>
    obtain ⟨items, L1, r1⟩ := isList R hl hx
    exact sumK ok.hh R.F R.N L1 (r1.ints hn) fun h' tk t' F' N' => ⟨_, _, m, ad, news, q, .int _ _, R.heap F' N', Le.refl, Rest.mk'⟩
  · rename_i a b c
    obtain ⟨⟨hsm, hc⟩, q⟩ := q
    obtain ⟨_, rfl, r⟩ := args1 ra
    cases r with | rng _ _ _ r t u w hd =>
    have hr : IsRange s.heap r a b c t u w := hd.get R
    have hn : (Builtin.Range.rangeSize a b c) = ((Builtin.Range.rangeSize a b c).toNat : Int) := by
      have e0 : 0 ≤ Builtin.Range.rangeSize a b c := by
        unfold Builtin.Range.rangeSize
        rw [if_pos hc]
        split
        · have := Int.ediv_nonneg (a := b - a - 1) (b := c) (by omega) (by omega)
          omega
        · omega
      omega
    refine call_sum_walkG (wpAny_pyIter_range hr hsm ⟨s.heap.objs.size, [s.heap.objs.size], [s.heap.objs.size], (Builtin.Range.rangeSize a b c).toNat, _, _, fun i => a + (i : Int) * c, rfl, Walks.range (A := C.A.in1) ok.hh s.heap.objs.size a c _, ?_, ?_, fun i v hv => hv, fun h' tk t' hk => ?_⟩)
    · show IsRangeIter _ _ _ _ _
      rw [hn]
      simpa using Heap.get?_push_size _ rfl
    · intro b hb
      rw [List.mem_singleton.mp hb]
      show _ < (s.heap.push _).objs.size
      rw [size_push']
      exact Nat.lt_succ_self _
    · have kp : ∀ b o, s.heap.get? b = some o → h'.get? b = some o := fun b o ho => hk b o (fun hb => absurd (Heap.lt_size ho) (by rw [List.mem_singleton.mp hb]; exact Nat.lt_irrefl _)) (Heap.get?_push_of_some _ ho)
      exact ⟨_, _, m, ad, news, q, .int _ _, R.heap (R.F.grownK kp) (R.N.grown kp), Le.refl, Rest.mk'⟩
theorem isinst_sound {args : List AV} {cargs : List Value} {Q : AV → St → Prop} (R : Rel C σ s.heap m ad news) (ra : RVs C.base C.fa ad news args cargs) (ok : CxOK C)
    (q : isinstW args σ Q) : Wp C (call (.builtin "isinstance") cargs) (PostV C Q s ad news) s := by
  unfold isinstW at q
  split at q <;> first | exact False.elim q | skip
  · obtain ⟨_, _, rfl, r, r2⟩ := args2 ra
    cases r; cases r2
    exact isinstance_float_true (PostV.same R q (.bool _))
theorem range_sound {args : List AV} {cargs : List Value} {Q : AV → St → Prop} (R : Rel C σ s.heap m ad news) (ra : RVs C.base C.fa ad news args cargs) (ok : CxOK C)
    (q : rangeW args σ Q) : Wp C (call (.type "range") cargs) (PostV C Q s ad news) s := by
  unfold rangeW at q
  split at q <;> first | exact False.elim q | skip
  · obtain ⟨_, rfl, r⟩ := args1 ra
    cases r
    exact call_range_1 ⟨_, _, m, ad, _, q, .rng _ _ _ _ _ _ _ (.inl (.head _)), R.more (R.F.push _) (News.push R.F R.N _), Le.cons, Rest.mk'⟩
  · obtain ⟨_, _, rfl, r, r2⟩ := args2 ra
    cases r; cases r2
    exact call_range_2 ⟨_, _, m, ad, _, q, .rng _ _ _ _ _ _ _ (.inl (.head _)), R.more (R.F.push _) (News.push R.F R.N _), Le.cons, Rest.mk'⟩
  · obtain ⟨_, _, _, rfl, r, r2, r3⟩ := args3 ra
    cases r; cases r2; cases r3
    exact call_range_3 q.1.1 ⟨_, _, m, ad, _, q.2, .rng _ _ _ _ _ _ _ (.inl (.head _)), R.more (R.F.push _) (News.push R.F R.N _), Le.cons, Rest.mk'⟩ (.inl (PyProof.noPylong_of_log2 q.1.2))
theorem call_sound {f : AV} {cf : Value} {args : List AV} {cargs : List Value} {Q : AV → St → Prop} (T : 0 < s.toks) (R : Rel C σ s.heap m ad news) (rf : RV C.base C.fa ad news f cf) (ra : RVs C.base C.fa ad news args cargs) (ok : CxOK C)
    (q : callW C.fns f args σ Q) : Wp C (call cf cargs) (PostV C Q s ad news) s := by
  cases rf <;> first | exact False.elim q | skip
  · rename_i t
    cases t <;> first | exact False.elim q | skip
    · exact range_sound R ra ok q
  · rename_i b
    cases b <;> first | exact False.elim q | skip
    · exact len_sound R ra ok q
    · exact min_sound R ra ok q
    · exact max_sound R ra ok q
    · exact sorted_sound R ra ok q
    · exact isinst_sound R ra ok q
    · exact sum_sound R ra ok q
  · exact ok.call C.fz _ _ _ _ _ _ _ _ _ T R ra q
end
end Mine
namespace Mine
open PySem PySem.W PySem.Calls PyProof.Rows PyProof.V PySem.Spec
section
variable {prog : Program} {w : World} {A : Around} {E : Value → Shared → Prop} {s : Shared}
end
end Mine
namespace Mine
open PySem PySem.W PySem.Calls PyProof.Rows PyProof.V PySem.Spec

noncomputable def SoundE (C : Cx) (p : PE) (e : Expr) : Prop := ∀ (σ : St) (Q : AV → St → Prop) (s : Shared) (m : Str → Option Value) (ad : List Addr) (news : Led),
  0 < s.toks → wpE C.gval C.fns p σ Q → Rel C σ s.heap m ad news → Wp C (eval e C.env) (PostV C Q s ad news) s
noncomputable def PostT (C : Cx) (Q : AV → St → Prop) (s : Shared) (ad : List Addr) (news : Led) (b : Bool) (s' : Shared) : Prop :=
  ∃ v σ' m' ad' news', truth σ' v = some b ∧ Q v σ' ∧ Rel C σ' s'.heap m' ad' news' ∧ Le C.fz ad news ad' news' ∧ Rest s s'
noncomputable def SoundT (C : Cx) (p : PE) (e : Expr) : Prop := ∀ (σ : St) (Q : AV → St → Prop) (s : Shared) (m : Str → Option Value) (ad : List Addr) (news : Led),
  0 < s.toks → wpE C.gval C.fns p σ Q → (∀ v σ', Q v σ' → ∃ b, truth σ' v = some b) → Rel C σ s.heap m ad news → Wp C (isTrue e C.env (eval e C.env)) (PostT C Q s ad news) s
noncomputable def SoundEs (C : Cx) (p : PEs) (es : List Expr) : Prop := ∀ (σ : St) (Q : List AV → St → Prop) (s : Shared) (m : Str → Option Value) (ad : List Addr) (news : Led) (pos : Pos),
  0 < s.toks → wpEs C.gval C.fns p σ Q → Rel C σ s.heap m ad news → Wp C (spliced (backTo pos (starEach es C.env))) (PostVs C Q s ad news) s
noncomputable def SoundBr (C : Cx) (isAnd : Bool) (p : PEs) (es : List Expr) : Prop := ∀ (e : Expr) (p₀ : PE) (pos : Pos) (σ : St) (Q : AV → St → Prop) (s : Shared) (m : Str → Option Value) (ad : List Addr) (news : Led), SoundE C p₀ e → SoundT C p₀ e →
  0 < s.toks → wpE C.gval C.fns p₀ σ (fun v σ₁ => wpBr C.gval C.fns isAnd p v σ₁ Q) → Rel C σ s.heap m ad news →
    Wp C (eval (.BoolOp (if isAnd then .And else .Or) (e :: es) pos) C.env) (PostV C Q s ad news) s ∧
    ((∀ v σ', Q v σ' → ∃ b, truth σ' v = some b) → ∀ whole, Wp C (isTrue (.BoolOp (if isAnd then .And else .Or) (e :: es) pos) C.env whole) (PostT C Q s ad news) s)

section
variable {C : Cx} {σ : St} {s : Shared} {m : Str → Option Value} {ad : List Addr} {news : Led}
theorem PostT.up {Q : AV → St → Prop} {s₀ s : Shared} {ad₀ ad : List Addr} {news₀ news : Led} (k : Le C.fz ad₀ news₀ ad news) (r : Rest s₀ s) {cv : Bool} {s' : Shared} (h : PostT C Q s ad news cv s') : PostT C Q s₀ ad₀ news₀ cv s' := by
  obtain ⟨v, σ', m', ad', news', t, q, R, l, r'⟩ := h
  exact ⟨v, σ', m', ad', news', t, q, R, k.trans l, r.trans r'⟩

theorem testOf {p : PE} {e : Expr} (h : SoundE C p e) (he : ∀ whole, isTrue e C.env whole = (do let v ← whole; standAt e.pos; holding [v] (truthy v))) : SoundT C p e := by
  intro σ Q s m ad news T q hq R
  refine isTrue_plain (wpAny_mono (h σ Q s m ad news T q R) (fun cv s₁ hp => ?_) fun _ _ x => x) (he _)
  obtain ⟨v, σ', m', ad', news', q', rv, R', l, r⟩ := hp
  obtain ⟨b, hb⟩ := hq v σ' q'
  refine wpAny_mono (truth_sound R' rv hb) (fun c s₂ hc => ?_) fun _ _ x => x
  obtain ⟨⟨tk, rfl⟩, rfl⟩ := hc
  exact ⟨v, σ', m', ad', news', hb, q', R', l, r.trans Rest.toks⟩

theorem brNil (ok : CxOK C) (isAnd : Bool) : SoundBr C isAnd .nil [] := by
  intro e p₀ pos σ Q s m ad news hE hT T q R
  refine ⟨BoolOp_one (hE _ _ _ _ _ _ T q R), fun hq whole => ?_⟩
  have h := hT _ _ _ _ _ _ T q hq R
  cases isAnd
  · refine isTrue_or (wpAny_mono h (fun c s₁ hp => ?_) fun _ _ x => x)
    cases c
    · exact isTrue_or_nil hp
    · exact hp
  · refine isTrue_and (wpAny_mono h (fun c s₁ hp => ?_) fun _ _ x => x)
    cases c
    · exact hp
    · exact isTrue_and_nil hp

theorem brCons (ok : CxOK C) (isAnd : Bool) {p : PE} {e : Expr} {ps : PEs} {es : List Expr} (h1 : SoundE C p e) (h2 : SoundT C p e) (h3 : SoundBr C isAnd ps es) : SoundBr C isAnd (.cons p ps) (e :: es) := by
  intro e₀ p₀ pos σ Q s m ad news hE hT T q R
  have step : ∀ (v : AV) (σ' : St) (b : Bool) (s' : Shared) m' ad' news', truth σ' v = some b → wpBr C.gval C.fns isAnd (.cons p ps) v σ' Q → Rel C σ' s'.heap m' ad' news' →
      (b = isAnd → wpE C.gval C.fns p σ' fun u σ₁ => wpBr C.gval C.fns isAnd ps u σ₁ Q) ∧ (b = !isAnd → Q v σ') := by
    intro v σ' b s' m' ad' news' hb hw R'
    obtain ⟨b', hb', hw⟩ := truthW_iff.mp hw
    rw [hb] at hb'
    cases hb'
    exact hw
  constructor
  · have hv := wpAny_toks (hE _ _ _ _ _ _ T q R)
    have key : ∀ (cv : Value) (s₁ : Shared), 0 < s₁.toks → PostV C (fun v σ₁ => wpBr C.gval C.fns isAnd (.cons p ps) v σ₁ Q) s ad news cv s₁ →
        Wp C (truthy cv) (fun c s₂ => (c = isAnd → Wp C (eval (.BoolOp (if isAnd then .And else .Or) (e :: es) pos) C.env) (PostV C Q s ad news) s₂) ∧ (c = !isAnd → PostV C Q s ad news cv s₂)) s₁ := by
      intro cv s₁ T₁ hp
      obtain ⟨v, σ', m', ad', news', q', rv, R', l, r⟩ := hp
      obtain ⟨b, hb, _⟩ := truthW_iff.mp q'
      have hw := step v σ' b s₁ m' ad' news' hb q' R'
      refine wpAny_mono (wpAny_toks (truth_sound R' rv hb)) (fun c s₂ hc => ?_) fun _ _ x => x.2
      obtain ⟨ht, ⟨tk, rfl⟩, rfl⟩ := hc
      have T₂ : 0 < tk := Nat.lt_of_lt_of_le T₁ ht
      refine ⟨fun hc => ?_, fun hc => ?_⟩
      · refine wpAny_mono ((h3 e p pos σ' Q { s₁ with toks := tk } m' ad' news' h1 h2 T₂ (hw.1 hc) R').1) (fun _ _ x => ?_) fun _ _ x => x
        exact PostV.up l (r.trans Rest.toks) x
      · exact ⟨v, σ', m', ad', news', hw.2 hc, rv, R', l, r.trans Rest.toks⟩
    cases isAnd
    · refine BoolOp_or (wpAny_mono hv (fun cv s₁ hp => wpAny_mono (key cv s₁ (Nat.lt_of_lt_of_le T hp.1) hp.2) (fun c s₂ hc => ?_) fun _ _ x => x) fun _ _ x => x.2)
      cases c
      · exact hc.1 rfl
      · exact hc.2 rfl
    · refine BoolOp_and (wpAny_mono hv (fun cv s₁ hp => wpAny_mono (key cv s₁ (Nat.lt_of_lt_of_le T hp.1) hp.2) (fun c s₂ hc => ?_) fun _ _ x => x) fun _ _ x => x.2)
      cases c
      · exact hc.2 rfl
      · exact hc.1 rfl
  · intro hq whole
    have hv := wpAny_toks (hT _ _ _ _ _ _ T q (fun v σ' hw => by obtain ⟨b, hb, _⟩ := truthW_iff.mp hw; exact ⟨b, hb⟩) R)
    have key : ∀ (c : Bool) (s₁ : Shared), 0 < s₁.toks → PostT C (fun v σ₁ => wpBr C.gval C.fns isAnd (.cons p ps) v σ₁ Q) s ad news c s₁ →
        (c = isAnd → Wp C (isTrue (.BoolOp (if isAnd then .And else .Or) (e :: es) pos) C.env whole) (PostT C Q s ad news) s₁) ∧ (c = !isAnd → PostT C Q s ad news c s₁) := by
      intro c s₁ T₁ hp
      obtain ⟨v, σ', m', ad', news', hb, q', R', l, r⟩ := hp
      have hw := step v σ' c s₁ m' ad' news' hb q' R'
      refine ⟨fun hc => ?_, fun hc => ?_⟩
      · refine wpAny_mono ((h3 e p pos σ' Q s₁ m' ad' news' h1 h2 T₁ (hw.1 hc) R').2 hq whole) (fun _ _ x => ?_) fun _ _ x => x
        exact PostT.up l r x
      · exact ⟨v, σ', m', ad', news', hb, hw.2 hc, R', l, r⟩
    cases isAnd
    · refine isTrue_or (wpAny_mono hv (fun c s₁ hp => ?_) fun _ _ x => x.2)
      cases c
      · exact (key _ _ (Nat.lt_of_lt_of_le T hp.1) hp.2).1 rfl
      · exact (key _ _ (Nat.lt_of_lt_of_le T hp.1) hp.2).2 rfl
    · refine isTrue_and (wpAny_mono hv (fun c s₁ hp => ?_) fun _ _ x => x.2)
      cases c
      · exact (key _ _ (Nat.lt_of_lt_of_le T hp.1) hp.2).2 rfl
      · exact (key _ _ (Nat.lt_of_lt_of_le T hp.1) hp.2).1 rfl
end
end Mine
namespace Mine
open PySem PySem.W PySem.Calls PyProof.Rows PyProof.V PySem.Spec

noncomputable def fullLed (base : Heap) (L : Addr) (h : Heap) : Led :=
  (List.range h.objs.size).filterMap fun a => match h.get? a with
    | some o => if a = L ∨ (base.get? a).isSome then none else some (a, o)
    | none => none
theorem mem_full {base h : Heap} {L a : Addr} {o : Obj} (ho : h.get? a = some o) (hL : a ≠ L) (hb : base.get? a = none) : (a, o) ∈ fullLed base L h := by
  refine List.mem_filterMap.mpr ⟨a, List.mem_range.mpr (Heap.lt_size ho), ?_⟩
  rw [ho]
  simp [hL, hb]
theorem full_mem {base h : Heap} {L : Addr} : News base L h (fullLed base L h) := by
  intro p hp
  obtain ⟨a, _, h2⟩ := List.mem_filterMap.mp hp
  cases ho : h.get? a with
  | none => rw [ho] at h2; cases h2
  | some o =>
    rw [ho] at h2
    simp only at h2
    split at h2
    · cases h2
    · rename_i hc
      cases h2
      simp only [not_or, Bool.not_eq_true, Option.isSome_eq_false_iff, Option.isNone_iff_eq_none] at hc
      exact ⟨ho, hc.1, hc.2⟩

section
variable {C C' : Cx} {σ σ' : St} {h h' : Heap} {m m' : Str → Option Value} {ad ad' : List Addr} {news news' : Led}

theorem Rel.full (R : Rel C σ h m ad news) : Rel C σ h m ad (fullLed C.base C.env.locals h) :=
  ⟨R.F, full_mem, R.M.mono fun p hm => mem_full (R.N _ hm).1 (R.N _ hm).2.1 (R.N _ hm).2.2⟩
noncomputable def shaped (o : Obj) : Prop := (∃ its n, o.data = .seq its n) ∨ (∃ fs, o.data = .fields fs)
mutual
theorem RV.move {base base' : Heap} {fa : FA} {ad ad' : List Addr} {news news' : Led} (hp : ∀ (i : Nat) (a : Addr), ad[i]? = some a → ad'[i]? = some a)
    (hh : ∀ a o, shaped o → Held base news a o → Held base' news' a o) : ∀ {v : AV} {c : Value}, RV base fa ad news v c → RV base' fa ad' news' v c
  | _, _, .none => .none
  | _, _, .bool b => .bool b
  | _, _, .int i t => .int i t
  | _, _, .float x t ht => .float x t ht
  | _, _, .str s t => .str s t
  | _, _, .typ n => .typ n
  | _, _, .bi n => .bi n
  | _, _, .fn j o fd h h' => .fn j o fd h h'
  | _, _, .tup l items a n h hs => .tup l items a n (hh _ _ (.inl ⟨_, _, rfl⟩) h) (RVs.move hp hh hs)
  | _, _, .lst i a h => .lst i a (hp i a h)
  | _, _, .rng a b c r t u v h => .rng a b c r t u v (hh _ _ (.inr ⟨_, rfl⟩) h)
theorem RVs.move {base base' : Heap} {fa : FA} {ad ad' : List Addr} {news news' : Led} (hp : ∀ (i : Nat) (a : Addr), ad[i]? = some a → ad'[i]? = some a)
    (hh : ∀ a o, shaped o → Held base news a o → Held base' news' a o) : ∀ {v : List AV} {c : List Value}, RVs base fa ad news v c → RVs base' fa ad' news' v c
  | _, _, .nil => .nil
  | _, _, .cons v vs c cs h hs => .cons v vs c cs (RV.move hp hh h) (RVs.move hp hh hs)
end

theorem down_RV (R : Rel C σ h m ad news) {led : Led} {v : AV} {cv : Value} (x : RV C.base C.fa ad news v cv) : RV h C.fa ad led v cv := x.move (fun _ _ h => h) fun a o _ k => .inr (k.get R)
theorem down_RVs (R : Rel C σ h m ad news) {led : Led} {v : List AV} {cv : List Value} (x : RVs C.base C.fa ad news v cv) : RVs h C.fa ad led v cv := x.move (fun _ _ h => h) fun a o _ k => .inr (k.get R)

theorem up_held (R : Rel C σ h m ad news) {b : Addr} {o : Obj} (hs : shaped o ∨ isCellObj o) (x : Held h news' b o) : Held C.base (fullLed C.base C.env.locals h ++ news') b o := by
  rcases x with x | x
  · exact .inl (List.mem_append_right _ x)
  · by_cases hb : C.base.get? b = none
    · refine .inl (List.mem_append_left _ (mem_full x ?_ hb))
      rintro rfl
      obtain ⟨oL, es, ep, e1, e2, _⟩ := R.F.ns
      rw [e1] at x
      cases x
      rcases hs with (⟨_, _, hd⟩ | ⟨_, hd⟩) | ⟨_, hd⟩ <;> rw [hd] at e2 <;> cases e2
    · cases hb' : C.base.get? b with
      | none => exact absurd hb' hb
      | some o' =>
        have := R.F.keep _ _ hb'
        rw [x] at this
        cases this
        exact .inr hb'
theorem up_RV (R : Rel C σ h m ad news) {v : AV} {cv : Value} (x : RV h C.fa ad' news' v cv) : RV C.base C.fa ad' (fullLed C.base C.env.locals h ++ news') v cv := x.move (fun _ _ h => h) fun a o s k => up_held R (.inl s) k
theorem up_RVs (R : Rel C σ h m ad news) {v : List AV} {cv : List Value} (x : RVs h C.fa ad' news' v cv) : RVs C.base C.fa ad' (fullLed C.base C.env.locals h ++ news') v cv := x.move (fun _ _ h => h) fun a o s k => up_held R (.inl s) k

theorem up_RelK (R : Rel C σ h m ad news) (keep : ∀ b o, h.get? b = some o → h'.get? b = some o) (N' : News h C'.env.locals h' news') (M' : RelM C' σ' m' ad' news') (hb : C'.base = h) (hfa : C'.fa = C.fa) (pre : ∀ (i : Nat) (a : Addr), ad[i]? = some a → ad'[i]? = some a) :
    Rel C { σ with objs := σ'.objs } h' m ad' (fullLed C.base C.env.locals h ++ news') := by
  subst hb
  have Rf := R.full
  have lk : Le (C.fz) ad (fullLed C.base C.env.locals C'.base) ad' (fullLed C.base C.env.locals C'.base ++ news') := .all pre fun _ h => List.mem_append_left _ h
  refine ⟨R.F.grownK keep, ?_, ?_⟩
  · intro p hp
    rcases List.mem_append.mp hp with hp | hp
    · exact ⟨keep _ _ (Rf.N p hp).1, (Rf.N p hp).2⟩
    · obtain ⟨e1, e2, e3⟩ := N' p hp
      refine ⟨e1, ?_, ?_⟩
      · rintro h
        obtain ⟨oL, es, ep, e4, _⟩ := R.F.ns
        rw [h, e4] at e3
        cases e3
      · cases hb' : C.base.get? p.1 with
        | none => rfl
        | some o' =>
          have h4 := R.F.keep _ _ hb'
          rw [h4] at e3
          cases e3
  · refine ⟨fun n v hv => ?_, M'.len, fun i l hl => ?_, fun i hi => ?_, M'.inj, fun a ha => ?_, fun hc x hx => ?_⟩
    · obtain ⟨x, cv, e1, e2, e3⟩ := Rf.M.loc n v hv
      exact ⟨x, cv, e1, e2.mono fun _ h => List.mem_append_left _ h, e3.le lk⟩
    · obtain ⟨b, items, o, ha, hd, rs⟩ := M'.obj i l hl
      rw [hfa] at rs
      exact ⟨b, items, o, ha, ⟨up_held R (.inl (.inl (let ⟨k, hk⟩ := hd.2.2; ⟨_, k, hk⟩))) hd.1, hd.2⟩, up_RVs R rs⟩
    · obtain ⟨a', o', ha', ho', hf'⟩ := Rf.M.own i hi
      exact ⟨a', o', pre i a' ha', ⟨List.mem_append_left _ ho'.1, ho'.2⟩, hf'⟩
    · obtain ⟨o, ho, hL⟩ := Rf.M.fzin a ha
      exact ⟨o, ho.mono fun _ h => List.mem_append_left _ h, hL⟩
    · obtain ⟨c, o, h1, h2, h3⟩ := Rf.M.cells hc x hx
      exact ⟨c, o, h1, List.mem_append_left _ h2, h3⟩
theorem up_Rel (R : Rel C σ h m ad news) (R' : Rel C' σ' h' m' ad' news') (hb : C'.base = h) (hfa : C'.fa = C.fa) (pre : ∀ (i : Nat) (a : Addr), ad[i]? = some a → ad'[i]? = some a) :
    Rel C { σ with objs := σ'.objs } h' m ad' (fullLed C.base C.env.locals h ++ news') := up_RelK R (hb ▸ R'.F.keep) (hb ▸ R'.N) R'.M hb hfa pre
theorem up_Le (R : Rel C σ h m ad news) (pre : ∀ (i : Nat) (a : Addr), ad[i]? = some a → ad'[i]? = some a) : Le C.fz ad news ad' (fullLed C.base C.env.locals h ++ news') :=
  .all pre fun p hm => List.mem_append_left _ (mem_full (R.N _ hm).1 (R.N _ hm).2.1 (R.N _ hm).2.2)

theorem Rel.update (R : Rel C σ h m ad news) {i : Nat} {D : Addr} {o' : Obj} {l : List AV} {items : List Value} (hi : ad[i]? = some D) (hm : ∃ o its, (D, o) ∈ news ∧ IsL o its) (hox : IsLx o' items)
    (hs : Heap.SameBut D h h') (hg : h'.get? D = some o') (hl : RVs C.base C.fa ad news l items) :
    Rel C { σ with objs := σ.objs.set i l } h' m ad ((D, o') :: news.filter fun p => p.1 != D) := by
  have ho := hox.toL
  obtain ⟨o₀, its₀, hm, hL₀⟩ := hm
  have hgD := (R.N _ hm).1
  have keep : ∀ b o, b ≠ D → h.get? b = some o → h'.get? b = some o := fun b o hb e => (hs.2 b hb).trans e
  have hDL : D ≠ C.env.locals := (R.N _ hm).2.1
  have other : ∀ (b : Addr) (o : Obj), (b, o) ∈ news → b ≠ D → (b, o) ∈ (D, o') :: news.filter fun p => p.1 != D := fun b o hb hne => .tail _ (List.mem_filter.mpr ⟨hb, by simpa using hne⟩)
  have notD : ∀ (b : Addr) (o : Obj), Held C.base news b o → ¬ (∃ its, IsL o its) → b ≠ D := by
    rintro b o hb hn rfl
    have := hb.get R
    rw [hgD] at this
    cases this
    exact hn ⟨_, hL₀⟩
  have heldO : ∀ (b : Addr) (o : Obj), Held C.base news b o → b ≠ D → Held C.base ((D, o') :: news.filter fun p => p.1 != D) b o := fun b o hb hne => hb.elim (fun y => .inl (other _ _ y hne)) .inr
  have rv : ∀ {v : AV} {cv : Value}, RV C.base C.fa ad news v cv → RV C.base C.fa ad ((D, o') :: news.filter fun p => p.1 != D) v cv := by
    intro v cv x
    refine x.leT ⟨fun _ _ h => h, fun a o hm' hc => other _ _ hm' (notD _ _ (.inl hm') ?_)⟩
    rintro ⟨its, h1, _⟩
    rcases hc with hc | hc <;> rw [h1] at hc <;> exact absurd hc (by decide)
  have rvs : ∀ {v : List AV} {cv : List Value}, RVs C.base C.fa ad news v cv → RVs C.base C.fa ad ((D, o') :: news.filter fun p => p.1 != D) v cv := by
    intro v cv x
    refine x.leT ⟨fun _ _ h => h, fun a o hm' hc => other _ _ hm' (notD _ _ (.inl hm') ?_)⟩
    rintro ⟨its, h1, _⟩
    rcases hc with hc | hc <;> rw [h1] at hc <;> exact absurd hc (by decide)
  have cellNot : ∀ (b : Addr) (o : Obj), Held C.base news b o → isCellObj o → b ≠ D := by
    rintro b o hb ⟨v, hv⟩
    refine notD b o hb ?_
    rintro ⟨its, _, n, h2⟩
    rw [hv] at h2
    cases h2
  refine ⟨⟨(R.F.ns.sameBut hs hDL.symm), fun b o e => keep b o (fun e' => ?_) (R.F.keep b o e), R.F.above⟩, ?_, ?_⟩
  · subst e'
    rw [(R.N _ hm).2.2] at e
    cases e
  · intro p hp
    rcases List.mem_cons.mp hp with rfl | hp
    · exact ⟨hg, (R.N _ hm).2⟩
    · obtain ⟨h1, h2⟩ := List.mem_filter.mp hp
      exact ⟨keep _ _ (by simpa using h2) (R.N p h1).1, (R.N p h1).2⟩
  · refine ⟨fun n v hv => ?_, by simp [R.M.len], fun j k hk => ?_, fun j hj => ?_, R.M.inj, fun a ha => ?_, fun hc x hx => ?_⟩
    · obtain ⟨x, cv, h1, h2, h3⟩ := R.M.loc n v hv
      refine ⟨x, cv, h1, ?_, rv h3⟩
      unfold VarAt at h2 ⊢
      split
      · rename_i hx
        rw [if_pos hx] at h2
        obtain ⟨c, o, e1, e2, e3⟩ := h2
        exact ⟨c, o, e1, heldO _ _ e2 (cellNot _ _ e2 ⟨_, e3⟩), e3⟩
      · rename_i hx
        rw [if_neg hx] at h2
        exact h2
    · by_cases hij : j = i
      · subst hij
        have hlt : j < σ.objs.length := by
          have := (List.getElem?_eq_some_iff.mp hi).1
          rw [R.M.len] at this
          exact this
        simp only [List.getElem?_set_self hlt, Option.some.injEq] at hk
        subst hk
        exact ⟨D, items, o', hi, ⟨.inl (.head _), ho⟩, rvs hl⟩
      · simp only [List.getElem?_set_ne (fun h => hij h.symm)] at hk
        obtain ⟨a, its, o, h1, h2, h3⟩ := R.M.obj j k hk
        have hne : a ≠ D := by
          rintro rfl
          exact hij (R.M.inj j i a h1 hi)
        exact ⟨a, its, o, h1, ⟨heldO _ _ h2.1 hne, h2.2⟩, rvs h3⟩
    · obtain ⟨a, o, h1, h2, h3⟩ := R.M.own j hj
      by_cases hne : a = D
      · subst hne
        exact ⟨a, o', h1, ⟨.head _, items, hox⟩, h3⟩
      · exact ⟨a, o, h1, ⟨other _ _ h2.1 hne, h2.2⟩, h3⟩
    · obtain ⟨o, ho'', hL⟩ := R.M.fzin a ha
      by_cases hne : a = D
      · subst hne
        exact ⟨o', .inl (.head _), items, ho⟩
      · exact ⟨o, heldO _ _ ho'' hne, hL⟩
    · obtain ⟨c, o, h1, h2, h3⟩ := R.M.cells hc x hx
      exact ⟨c, o, h1, other _ _ h2 (cellNot _ _ (.inl h2) h3), h3⟩
theorem update_Le {D : Addr} {o' : Obj} (hD : D ∉ C.fz) (hm : ∀ o, (D, o) ∈ news → o.cls = .type "list") : Le C.fz ad news ad ((D, o') :: news.filter fun p => p.1 != D) :=
  ⟨fun _ _ h => h, fun a o hmem hk => by
    refine .tail _ (List.mem_filter.mpr ⟨hmem, ?_⟩)
    simp only [bne_iff_ne, ne_eq]
    rintro rfl
    rcases hk with h | h
    · exact hD h
    · exact h.1 (hm o hmem)⟩
end
end Mine
namespace Mine
open PySem PySem.W PySem.Calls PyProof.Rows PyProof.V PySem.Spec

theorem nodup_inj {α : Type} {l : List α} (nd : l.Nodup) {i j : Nat} {x : α} (hi : l[i]? = some x) (hj : l[j]? = some x) : i = j := by
  have e1 := List.getElem?_eq_some_iff.mp hi
  have e2 := List.getElem?_eq_some_iff.mp hj
  have key := List.pairwise_iff_getElem.mp nd
  rcases Nat.lt_trichotomy i j with h | h | h
  · exact absurd (e1.2.trans e2.2.symm) (key i j e1.1 e2.1 h)
  · exact h
  · exact absurd (e2.2.trans e1.2.symm) (key j i e2.1 e1.1 h)

section
variable {C : Cx} {σ : St} {s : Shared} {m : Str → Option Value} {ad : List Addr} {news : Led}

noncomputable def plainIter (h : Heap) (I : Addr) : Prop := ∃ o n vs, h.get? I = some o ∧ o.cls = .type n ∧ o.data = .fields vs ∧ (n = "list_iterator" ∨ n = "range_iterator" ∨ n = "tuple_iterator")
theorem letOwned {M : Model} {A : Around} {E : Value → Shared → Prop} {target : Expr} {I : Addr} {v : Value} {Q : Unit → Shared → Prop} (h : plainIter s.heap I) (q : Q () s) : wpAny M A (letOwnedTupleGo target (.ref I) v) Q E s := by
  obtain ⟨o, n, vs, h1, h2, h3, h4⟩ := h
  have key : ∀ (v : Value), wpAny M A (do
    let (.ref r, .ref a) := ((.ref I : Value), v) | return
    let o ← load r
    match o.cls, o.data with
    | .type n, .fields vs =>
      if ["enumerate", "zip", "dict_itemiterator", "dict_reverseitemiterator", "odict_iterator", "itertools.zip_longest", "itertools.pairwise"].contains n && vs[0]? == some (rawInt a) then
        rule "for.unpacks-the-owned-tuple"
        updateField r 0 .none
    | _, _ => pure ()) Q E s := by
    intro v
    cases v <;> first | exact wpAny_pure q | skip
    refine wpAny_bind (wpAny_load h1 ?_)
    rw [h2, h3]
    have hn : (["enumerate", "zip", "dict_itemiterator", "dict_reverseitemiterator", "odict_iterator", "itertools.zip_longest", "itertools.pairwise"].contains n) = false := by
      rcases h4 with rfl | rfl | rfl <;> decide
    simp only [hn, Bool.false_and, Bool.false_eq_true, if_false]
    exact wpAny_pure q
  cases target <;> first | exact wpAny_pure q | exact key v

theorem RelM.set (R : RelM C σ m ad news) (nd : C.K.names.Nodup) {n : Nat} {x : Str} {v : AV} {cv : Value} (hx : C.K.names[n]? = some x) (hc : x ∉ C.K.cells) (rv : RV C.base C.fa ad news v cv) :
    RelM C (σ.set n v) (fun y => if y = x then some cv else m y) ad news := by
  refine ⟨fun k u h => ?_, R.len, R.obj, R.own, R.inj, R.fzin, R.cells⟩
  simp only [St.set, upd] at h
  by_cases hk : k = n
  · subst hk
    simp only [if_true, Option.some.injEq] at h
    subst h
    exact ⟨x, cv, hx, by unfold VarAt; rw [if_neg hc]; simp, rv⟩
  · simp only [hk, if_false] at h
    obtain ⟨y, cu, h1, h2, h3⟩ := R.loc k u h
    refine ⟨y, cu, h1, ?_, h3⟩
    have hne : y ≠ x := by
      rintro rfl
      exact hk (nodup_inj nd h1 hx)
    unfold VarAt at h2 ⊢
    split
    · rename_i hy; rw [if_pos hy] at h2; exact h2
    · rename_i hy; rw [if_neg hy] at h2; simp [hne, h2]

theorem store_sound (ok : CxOK C) {n : Nat} {x : Str} {v : AV} {cv : Value} {P : Unit → Shared → Prop} (hx : C.K.names[n]? = some x)
    (hoc : x ∈ C.K.cells → C.ownCells = true) (R : Rel C σ s.heap m ad news) (rv : RV C.base C.fa ad news v cv)
    (h : ∀ h' tk m' news', Rel C (σ.set n v) h' m' ad news' → Le C.fz ad news ad news' → P () { s with heap := h', toks := tk }) : Wp C (storeName C.env x cv) P s := by
  obtain ⟨hd, hl, hc⟩ := ok.locs x (List.mem_of_getElem? hx)
  by_cases hcell : x ∈ C.K.cells
  · obtain ⟨c, o, h1, h2, hco⟩ := R.M.cells (hoc hcell) x hcell
    obtain ⟨v₀, hv₀⟩ := hco
    have hgc := (R.N _ h2).1
    refine wpAny_storeName_cell ok.kind (hc hcell) h1 ⟨o, hgc, hv₀⟩ fun h' hic hs => ?_
    obtain ⟨o', ho', hd'⟩ := hic
    have keep : ∀ b o, b ≠ c → s.heap.get? b = some o → h'.get? b = some o := fun b o hb e => (hs.2 b hb).trans e
    have other : ∀ (b : Addr) (o : Obj), (b, o) ∈ news → b ≠ c → (b, o) ∈ (c, o') :: news.filter fun p => p.1 != c := fun b o hb hne => .tail _ (List.mem_filter.mpr ⟨hb, by simpa using hne⟩)
    have notC : ∀ (b : Addr) (o : Obj), Held C.base news b o → ¬ isCellObj o → b ≠ c := by
      rintro b o hb hn rfl
      have := hb.get R
      rw [hgc] at this
      cases this
      exact hn ⟨_, hv₀⟩
    have heldO : ∀ (b : Addr) (o : Obj), Held C.base news b o → b ≠ c → Held C.base ((c, o') :: news.filter fun p => p.1 != c) b o := fun b o hb hne => hb.elim (fun y => .inl (other _ _ y hne)) .inr
    have lk : Le C.fz ad news ad ((c, o') :: news.filter fun p => p.1 != c) := ⟨fun _ _ h => h, fun a o hm hk => by
      refine other _ _ hm (notC _ _ (.inl hm) ?_)
      rcases hk with hk | hk
      · rintro ⟨w, hw⟩
        obtain ⟨o2, ho2, its, _, n2, hd2⟩ := R.M.fzin a hk
        have e2 := ho2.get R
        rw [(R.N _ hm).1] at e2
        cases e2
        rw [hw] at hd2
        cases hd2
      · exact hk.2⟩
    have hcL : c ≠ C.env.locals := (R.N _ h2).2.1
    have listNot : ∀ (b : Addr) (o : Obj), Held C.base news b o → (∃ its, IsL o its) → b ≠ c := by
      rintro b o hb ⟨its, _, n, hn⟩
      refine notC b o hb ?_
      rintro ⟨w, hw⟩
      rw [hw] at hn
      cases hn
    refine h h' s.toks m ((c, o') :: news.filter fun p => p.1 != c) ⟨⟨R.F.ns.sameBut hs hcL.symm, fun b o e => keep b o (fun e' => ?_) (R.F.keep b o e), R.F.above⟩, ?_, ?_⟩ lk
    · subst e'
      rw [(R.N _ h2).2.2] at e
      cases e
    · intro p hp
      rcases List.mem_cons.mp hp with rfl | hp
      · exact ⟨ho', (R.N _ h2).2⟩
      · obtain ⟨e1, e2⟩ := List.mem_filter.mp hp
        exact ⟨keep _ _ (by simpa using e2) (R.N p e1).1, (R.N p e1).2⟩
    · refine ⟨fun k u hk => ?_, R.M.len, fun j l hl => ?_, fun j hj => ?_, R.M.inj, fun a ha => ?_, fun hc' y hy => ?_⟩
      · simp only [St.set, upd] at hk
        by_cases hkn : k = n
        · subst hkn
          simp only [if_true, Option.some.injEq] at hk
          subst hk
          exact ⟨x, cv, hx, by unfold VarAt; rw [if_pos hcell]; exact ⟨c, o', h1, .inl (.head _), hd'⟩, rv.le lk⟩
        · simp only [hkn, if_false] at hk
          obtain ⟨y, cu, g1, g2, g3⟩ := R.M.loc k u hk
          have hne : y ≠ x := by
            rintro rfl
            exact hkn (nodup_inj ok.nodup g1 hx)
          refine ⟨y, cu, g1, ?_, g3.le lk⟩
          unfold VarAt at g2 ⊢
          split
          · rename_i hy
            rw [if_pos hy] at g2
            obtain ⟨d, od, f1, f2, f3⟩ := g2
            refine ⟨d, od, f1, heldO _ _ f2 ?_, f3⟩
            rintro rfl
            exact hne (ok.cellinj y hy x hcell d f1 h1)
          · rename_i hy
            rw [if_neg hy] at g2
            exact g2
      · obtain ⟨a, its, oo, g1, g2, g3⟩ := R.M.obj j l hl
        exact ⟨a, its, oo, g1, ⟨heldO _ _ g2.1 (listNot _ _ g2.1 ⟨_, g2.2⟩), g2.2⟩, g3.le lk⟩
      · obtain ⟨a, oo, g1, g2, g3⟩ := R.M.own j hj
        exact ⟨a, oo, g1, ⟨other _ _ g2.1 (listNot _ _ (.inl g2.1) (g2.2.imp fun _ h => h.toL)), g2.2⟩, g3⟩
      · obtain ⟨oo, g1, g2⟩ := R.M.fzin a ha
        exact ⟨oo, heldO _ _ g1 (listNot _ _ g1 g2), g2⟩
      · obtain ⟨d, od, g1, g2, g3⟩ := R.M.cells hc' y hy
        by_cases hd : d = c
        · subst hd
          exact ⟨d, o', g1, .head _, _, hd'⟩
        · exact ⟨d, od, g1, other _ _ g2 hd, g3⟩
  · refine wpAny_storeName_local (hl hcell) R.F.ns (fun h' hn hs => ?_) (by rw [ok.kind]; rfl)
    exact h h' (s.toks + 1) _ news ⟨R.F.set hn hs, R.N.set hs, R.M.set ok.nodup hx hcell rv⟩ Le.refl
end
end Mine
namespace Mine
open PySem PySem.W PySem.Calls PyProof.Rows PyProof.V PySem.Spec

noncomputable def Tgt.ids : Tgt → List Nat
  | .name n => [n]
  | .tup ns => ns
section
variable {C : Cx} {σ : St} {s : Shared} {m : Str → Option Value} {ad : List Addr} {news : Led}

noncomputable def mayStore (C : Cx) (ns : List Nat) : Prop := ∀ n ∈ ns, ∀ x, C.K.names[n]? = some x → x ∈ C.K.cells → C.ownCells = true

theorem inOrder_sound (ok : CxOK C) {P : Unit → Shared → Prop} : ∀ (ns : List Nat) (es : List Expr) (vs : List AV) (cvs : List Value) (σ : St) (s : Shared) (m : Str → Option Value) (news : Led),
    ns.length = es.length → ((ns.zip es).all fun p => match p.2 with | .Name x _ => C.K.names[p.1]? == some x | _ => false) = true → mayStore C ns → vs.length = ns.length → RVs C.base C.fa ad news vs cvs → Rel C σ s.heap m ad news →
    (∀ h' tk m' news', Rel C (setAll σ ns vs) h' m' ad news' → Le C.fz ad news ad news' → P () { s with heap := h', toks := tk }) → Wp C (assignInOrder ((assignEach es C.env).map (·.2)) cvs) P s
  | [], [], [], cvs, σ, s, m, news, _, _, _, _, rv, R, h => assignInOrder_nil (h s.heap s.toks m news R Le.refl)
  | [], [], _ :: _, cvs, σ, s, m, news, _, _, _, h, _, _, _ => by cases h
  | [], _ :: _, _, cvs, σ, s, m, news, h, _, _, _, _, _, _ => by cases h
  | _ :: _, [], _, cvs, σ, s, m, news, h, _, _, _, _, _, _ => by cases h
  | _ :: _, _ :: _, [], cvs, σ, s, m, news, _, _, _, h, _, _, _ => by cases h
  | n :: ns, e :: es, v :: vs, cvs, σ, s, m, news, hl, hz, hs, hv, rv, R, h => by
    cases rv with | cons _ _ cv cvs' rv rvs =>
    simp only [List.zip_cons_cons, List.all_cons, Bool.and_eq_true] at hz
    obtain ⟨hz1, hz2⟩ := hz
    cases e <;> first | (cases hz1; done) | skip
    rename_i x px
    have hx : C.K.names[n]? = some x := eq_of_beq hz1
    show Wp C (assignInOrder (assign (.Name x px) C.env :: (assignEach es C.env).map (·.2)) (cv :: cvs')) P s
    refine assignInOrder_cons (PyProof.Rows.assign_Name (store_sound ok hx (fun hc => hs n (.head _) x hx hc) R rv fun h' tk m' news' R' l' => ?_))
    refine inOrder_sound ok ns es vs cvs' (σ.set n v) { s with heap := h', toks := tk } m' news' (by simpa using hl) hz2 (fun k hk => hs k (.tail _ hk)) (by simpa using hv) (rvs.le l') R' fun h₂ tk₂ m₂ news₂ R₂ l₂ => ?_
    exact h h₂ tk₂ m₂ news₂ R₂ (l'.trans l₂)

theorem each_len (env : Env) : ∀ es : List Expr, (assignEach es env).length = es.length
  | [] => rfl
  | e :: es => by
    have := each_len env es
    cases e <;> simp [assignEach, this]
theorem each_star (env : Env) (K : Keys) : ∀ (ns : List Nat) (es : List Expr), ns.length = es.length → ((ns.zip es).all fun p => match p.2 with | .Name x _ => K.names[p.1]? == some x | _ => false) = true → (assignEach es env).findIdx? (·.1) = none
  | [], [], _, _ => rfl
  | n :: ns, e :: es, hl, hz => by
    simp only [List.zip_cons_cons, List.all_cons, Bool.and_eq_true] at hz
    have := each_star env K ns es (by simpa using hl) hz.2
    cases e <;> first | (cases hz.1; done) | skip
    simp [assignEach, List.findIdx?_cons, this]
  | [], _ :: _, h, _ => by cases h
  | _ :: _, [], h, _ => by cases h

theorem bind_sound (ok : CxOK C) {t : Tgt} {e : Expr} {v : AV} {cv : Value} {K : St → Prop} {P : Unit → Shared → Prop} (hm : mT C.K t e = true) (hs : mayStore C t.ids) (q : bindW t v σ K) (R : Rel C σ s.heap m ad news) (rv : RV C.base C.fa ad news v cv)
    (h : ∀ σ' h' tk m' news', K σ' → Rel C σ' h' m' ad news' → Le C.fz ad news ad news' → P () { s with heap := h', toks := tk }) : Wp C (assign e C.env cv) P s := by
  cases t with
  | name n =>
    cases e <;> first | (cases hm; done) | skip
    rename_i x px
    exact PyProof.Rows.assign_Name (store_sound ok (eq_of_beq hm) (fun hc => hs n (.head _) x (eq_of_beq hm) hc) R rv fun h' tk m' news' R' l' => h _ h' tk m' news' q R' l')
  | tup ns =>
    cases e <;> first | (cases hm; done) | skip
    rename_i es k pos
    simp only [mT, Bool.and_eq_true, beq_iff_eq] at hm
    have core : ∀ (items : List Value) (l : List AV) (h' : Heap), RVs C.base C.fa ad news l items → l.length = ns.length → K (setAll σ ns l) → Rel C σ h' m ad news → Wp C (assignInOrder ((assignEach es C.env).map (·.2)) items) P { s with heap := h' } :=
      fun items l h' rvs hl q' R' => inOrder_sound ok ns es l items σ { s with heap := h' } m news hm.1 hm.2 hs hl rvs R' fun h₂ tk₂ m₂ news₂ R₂ l₂ => h _ h₂ tk₂ m₂ news₂ q' R₂ l₂
    simp only [bindW, partsW] at q
    split at q
    · rename_i l
      obtain ⟨hl, q⟩ := q
      cases rv with | tup _ items a n hd rvs =>
      refine unpackN_ R.F R.N (t := a) (items := items.toArray) ⟨_, hd.get R, rfl, _, rfl⟩ ok.hh (by rw [each_len]; simp only [List.size_toArray]; rw [← rvs.length, hl, hm.1]) (each_star _ _ ns es hm.1 hm.2) fun h' F' N' => ?_
      exact core items l h' rvs hl q (R.heap F' N')
    · rename_i j
      obtain ⟨l, hj, hl, q⟩ := q
      cases rv with | lst _ a ha =>
      obtain ⟨items, L1, rvs⟩ := isList R hj ha
      refine kun_list R.F R.N (l := a) (items := items.toArray) L1 ok.hh (by rw [each_len]; simp only [List.size_toArray]; rw [← rvs.length, hl, hm.1]) (each_star _ _ ns es hm.1 hm.2) fun h' F' N' => ?_
      exact core items l h' rvs hl q (R.heap F' N')
    · exact q.elim
end
end Mine
namespace Mine
open PySem PySem.W PySem.Calls PyProof.Rows PyProof.V PySem.Spec
section
variable {C : Cx} {σ : St} {s : Shared} {m : Str → Option Value} {ad : List Addr} {news : Led}
theorem and2s {a b : Bool} (h : (a && b) = true) : a = true ∧ b = true := by cases a <;> cases b <;> first | exact ⟨rfl, rfl⟩ | cases h
theorem none_ne {α : Type} {y : α} (h : (none : Option α) = some y) : False := by cases h
theorem names_filter (ok : CxOK C) (line : Nat) : ∀ (es : List Expr) (ns : List Nat),
    (es.map fun e => match e with | .Name x pos => if pos.line == line && !(C.K.cells.contains x) then some x else none | _ => none) = (ns.map fun n => C.K.names[n]?) → (∀ n ∈ ns, n < C.K.names.length) →
    (es.filterMap fun e => match e with | .Name id pos => if C.env.kindOf id == some .local && pos.line == line then some id else none | _ => none) = ns.map (fun n => C.K.names.getD n "") ∧ (∀ n ∈ ns, ∃ x, C.K.names[n]? = some x ∧ x ∉ C.K.cells)
  | [], [], _, _ => ⟨rfl, fun _ h => by cases h⟩
  | [], _ :: _, h, _ => by cases h
  | _ :: _, [], h, _ => by cases h
  | e :: es, n :: ns, h, hb => by
    obtain ⟨h1, h2⟩ := List.cons.inj h
    obtain ⟨f1, f2⟩ := names_filter ok line es ns h2 fun k hk => hb k (.tail _ hk)
    have hn := hb n (.head _)
    have hg : C.K.names[n]? = some (C.K.names.getD n "") := by rw [List.getD_eq_getElem?_getD, List.getElem?_eq_getElem hn]; rfl
    dsimp only at h1
    rw [hg] at h1
    cases e <;> first | exact (none_ne h1).elim | skip
    rename_i x pos
    dsimp only at h1
    split at h1
    · rename_i hc
      obtain ⟨c1, c2⟩ := and2s hc
      cases h1
      have hx : C.K.names.getD n "" ∉ C.K.cells := by
        intro hm
        rw [List.contains_iff_mem.mpr hm] at c2
        cases c2
      have hk := (ok.locs _ (List.mem_of_getElem? hg)).2.1 hx
      refine ⟨?_, fun k hk' => ?_⟩
      · rw [List.filterMap_cons]
        simp only [hk, c1, beq_self_eq_true, Bool.and_self, if_true, List.map_cons]
        rw [f1]
      · rcases List.mem_cons.mp hk' with rfl | hk'
        · exact ⟨_, hg, hx⟩
        · exact f2 k hk'
    · cases h1
theorem swapped_of (ok : CxOK C) {ns : List Nat} {es vs : List Expr} {k k' : Nat} {p p' : Pos} (h : swapT C.K ns es vs = true) :
    swappedStores [.Tuple es k p] (.Tuple vs k' p') C.env = pure (some (ns.map fun n => C.K.names.getD n "")) ∧ (∀ n ∈ ns, ∃ x, C.K.names[n]? = some x ∧ x ∉ C.K.cells) := by
  obtain ⟨h1, h2⟩ := and2s h
  obtain ⟨a1, a2⟩ := and2s h1
  obtain ⟨a3, a4⟩ := and2s a2
  obtain ⟨a5, a6⟩ := and2s a4
  obtain ⟨b1, b2⟩ := and2s h2
  obtain ⟨b3, b4⟩ := and2s b2
  obtain ⟨b5, b6⟩ := and2s b4
  have hb : ∀ n ∈ ns, n < C.K.names.length := fun n hn => of_decide_eq_true (List.all_eq_true.mp a6 n hn)
  obtain ⟨f1, f2⟩ := names_filter ok _ es ns (eq_of_beq b1) hb
  refine ⟨?_, f2⟩
  have hlen : ns.length = es.length := by
    have := congrArg List.length (eq_of_beq b1)
    simpa using this.symm
  have hbk : C.env.blockKind = .function := by unfold Env.blockKind; rw [ok.kind]; rfl
  unfold swappedStores
  simp only [pure_bind]
  rw [if_neg (by simp [a1, eq_of_beq a3, hbk]), if_neg ?ns]
  case ns =>
    intro hc
    rw [List.any_eq_true] at hc
    obtain ⟨e, he, hc⟩ := hc
    have := List.all_eq_true.mp a5 e he
    cases e <;> first | (cases hc; done) | cases this
  generalize hF : List.filterMap _ es = F
  have f1' : F = ns.map (fun n => C.K.names.getD n "") := by rw [← hF]; exact f1
  rw [f1']
  rw [if_neg (by rw [eq_of_beq b3, List.length_map, hlen]; simp), if_neg (by simpa using b5), if_neg (by simpa using b6)]
theorem RVs.reverse {base : Heap} {fa : FA} : ∀ {l : List AV} {c : List Value}, RVs base fa ad news l c → RVs base fa ad news l.reverse c.reverse
  | _, _, .nil => .nil
  | _, _, .cons v vs c cs r rs => by
    rw [List.reverse_cons, List.reverse_cons]
    exact (rs.reverse).append (.cons _ _ _ _ r .nil)
theorem inOrderN_sound (ok : CxOK C) {P : Unit → Shared → Prop} : ∀ (ns : List Nat) (vs : List AV) (cvs : List Value) (σ : St) (s : Shared) (m : Str → Option Value) (news : Led),
    (∀ n ∈ ns, ∃ x, C.K.names[n]? = some x ∧ x ∉ C.K.cells) → vs.length = ns.length → RVs C.base C.fa ad news vs cvs → Rel C σ s.heap m ad news →
    (∀ h' tk m' news', Rel C (setAll σ ns vs) h' m' ad news' → Le C.fz ad news ad news' → P () { s with heap := h', toks := tk }) → Wp C (assignInOrder ((ns.map fun n => C.K.names.getD n "").map fun x => bindName C.env x) cvs) P s
  | [], [], cvs, σ, s, m, news, _, _, rv, R, h => assignInOrder_nil (h s.heap s.toks m news R Le.refl)
  | [], _ :: _, cvs, σ, s, m, news, _, h, _, _, _ => by cases h
  | _ :: _, [], cvs, σ, s, m, news, _, h, _, _, _ => by cases h
  | n :: ns, v :: vs, cvs, σ, s, m, news, hs, hv, rv, R, h => by
    cases rv with | cons _ _ cv cvs' rv rvs =>
    obtain ⟨x, hx, hc⟩ := hs n (.head _)
    have hg : C.K.names.getD n "" = x := by rw [List.getD_eq_getElem?_getD, hx]; rfl
    rw [List.map_cons, List.map_cons, hg]
    refine assignInOrder_cons (bindName_ (store_sound ok hx (fun h => absurd h hc) R rv fun h' tk m' news' R' l' => ?_))
    refine inOrderN_sound ok ns vs cvs' (σ.set n v) { s with heap := h', toks := tk } m' news' (fun k hk => hs k (.tail _ hk)) (by simpa using hv) (rvs.le l') R' fun h₂ tk₂ m₂ news₂ R₂ l₂ => ?_
    exact h h₂ tk₂ m₂ news₂ R₂ (l'.trans l₂)
theorem swap_none {es vs : List Expr} {k k' : Nat} {p p' : Pos} (h : vs.all (foldedForSure 8) = true) : swappedStores [.Tuple es k p] (.Tuple vs k' p') C.env = pure none := by
  unfold swappedStores
  simp only
  split
  · rfl
  split
  · rfl
  split
  · rfl
  rfl
end
end Mine
namespace Mine
open PySem PySem.W PySem.Calls PyProof.Rows PyProof.V PySem.Spec

structure Iter (C : Cx) (items : List AV) (ad : List Addr) (news : Led) (I : Addr) (fp fs : List Addr) (P : Nat → Value → Prop) (St : Nat → Heap → Prop) : Prop where
  W : Walks C.prog C.w C.A I fp [I] items.length P St
  item : ∀ i cv, P i cv → i < items.length → ∃ u, items[i]? = some u ∧ RV C.base C.fa ad news u cv
  fpIn : ∀ b ∈ fp, b = I ∨ ∃ o, Held C.base news b o ∧ (b ∈ fs ∨ (o.cls ≠ .type "list" ∧ ¬ isCellObj o))
  plain : ∀ i h, St i h → plainIter h I

noncomputable def fsOf (v : AV) (ad : List Addr) (fs : List Addr) : Prop := (∃ j ax, v = .lst j ∧ ad[j]? = some ax ∧ fs = [ax]) ∨ ((∀ j, v ≠ .lst j) ∧ fs = [])

theorem it_bad {h : Heap} {I : Addr} (p : plainIter h I) : ∃ o, h.get? I = some o ∧ ¬ good o := by
  obtain ⟨o, n, v, e, c, d, t⟩ := p
  refine ⟨o, e, ?_⟩
  rintro (h | h | h | ⟨w, h⟩)
  · rw [c] at h; rcases t with rfl | rfl | rfl <;> exact absurd h (by decide)
  · rw [c] at h; rcases t with rfl | rfl | rfl <;> exact absurd h (by decide)
  · rw [c] at h; rcases t with rfl | rfl | rfl <;> exact absurd h (by decide)
  · rw [d] at h; cases h
theorem bad_keep {o : Obj} (h : ¬ good o) : o.cls ≠ .type "list" ∧ ¬ isCellObj o := ⟨fun x => h (.inr (.inl x)), fun x => h (.inr (.inr (.inr x)))⟩
theorem sub_filter {base h : Heap} {L I : Addr} {news : Led} {oI : Obj} (N : News base L h news) (hI : (I, oI) ∈ news) (hb : ¬ good oI) (a : Addr) (o : Obj) (hm : (a, o) ∈ news) (hg : good o) : (a, o) ∈ news.filter fun p => p.1 != I := by
  refine List.mem_filter.mpr ⟨hm, ?_⟩
  simp only [bne_iff_ne, ne_eq]
  rintro rfl
  have e1 := (N _ hm).1
  have e2 := (N _ hI).1
  rw [e1] at e2
  cases e2
  exact hb hg
theorem keep_it {base h h' : Heap} {L I : Addr} {m : Str → Option Value} {news : Led} (F : Fr base L h m) (N : News base L h news) (fresh : base.get? I = none) (hIL : I ≠ L) (hn : ∀ p ∈ news, p.1 ≠ I)
    (hk : ∀ b o', b ∉ [I] → h.get? b = some o' → h'.get? b = some o') : Fr base L h' m ∧ News base L h' news := by
  refine ⟨⟨Heap.Ns.at' F.ns fun o' e => hk _ o' (fun hb => hIL (List.mem_singleton.mp hb).symm) e, fun b o' e => hk b o' (fun hb => ?_) (F.keep b o' e), F.above⟩, fun p hp => ⟨hk _ _ (fun hb => hn p hp (List.mem_singleton.mp hb)) (N p hp).1, (N p hp).2⟩⟩
  have hb := List.mem_singleton.mp hb
  subst hb
  rw [fresh] at e
  cases e

section
variable {C : Cx} {σ : St} {s : Shared} {m : Str → Option Value} {ad : List Addr} {news : Led}

theorem iter_sound (ok : CxOK C) {v : AV} {cv : Value} {K : List AV → Prop} {Q : Value → Shared → Prop} (q : itemsW v σ K) (R : Rel C σ s.heap m ad news) (rv : RV C.base C.fa ad news v cv)
    (h : ∀ items io fp fs P St, K items → Iter C items ad news s.heap.objs.size fp fs P St → fsOf v ad fs → St 0 (s.heap.push io) → (∀ b ∈ fp, b ≤ s.heap.objs.size) → Q (.ref s.heap.objs.size) { s with heap := s.heap.push io }) :
    Wp C (pyIter cv) Q s := by
  unfold itemsW at q
  split at q
  · rename_i a b c
    obtain ⟨⟨hsm, hc⟩, q⟩ := q
    cases rv with | rng _ _ _ r t u w hd =>
    have hr : IsRange s.heap r a b c t u w := hd.get R
    have hn : (Builtin.Range.rangeSize a b c) = ((Builtin.Range.rangeSize a b c).toNat : Int) := by
      have e0 : 0 ≤ Builtin.Range.rangeSize a b c := by
        unfold Builtin.Range.rangeSize
        rw [if_pos hc]
        split
        · have := Int.ediv_nonneg (a := b - a - 1) (b := c) (by omega) (by omega)
          omega
        · omega
      omega
    have hlen : (rngItems a b c).length = (Builtin.Range.rangeSize a b c).toNat := by simp [rngItems]
    refine wpAny_pyIter_range hr hsm (h (rngItems a b c) _ [s.heap.objs.size] [] _ _ q ⟨by rw [hlen]; exact (Walks.range ok.hh s.heap.objs.size a c _), ?_, ?_, ?_⟩ (.inr ⟨fun j h => (by cases h), rfl⟩) ?_ ?_)
    · rintro i cv ⟨t', rfl⟩ hi
      rw [hlen] at hi
      refine ⟨.int (a + (i : Int) * c), ?_, .int _ _⟩
      simp [rngItems, hi]
    · intro b hb
      exact .inl (List.mem_singleton.mp hb)
    · intro i h st
      exact ⟨_, _, _, st, rfl, rfl, .inr (.inl rfl)⟩
    · show IsRangeIter _ _ _ _ _
      rw [hn]
      simpa using Heap.get?_push_size _ rfl
    · intro b hb
      rw [List.mem_singleton.mp hb]
      exact Nat.le_refl _
  · rename_i j
    obtain ⟨l, hj, q⟩ := q
    cases rv with | lst _ ax ha =>
    obtain ⟨items, L1, rvs⟩ := isList R hj ha
    have hlt : ax < s.heap.objs.size := R.lt ha
    obtain ⟨a', its, o, h1, h2, h3⟩ := R.M.obj j l hj
    rw [ha] at h1
    cases h1
    refine wpAny_pyIter_list L1 (h l _ [s.heap.objs.size, ax] [ax] _ _ q ⟨by rw [rvs.length, ← List.size_toArray]; exact Walks.list ok.hh s.heap.objs.size ax (Nat.ne_of_lt hlt) items.toArray, ?_, ?_, ?_⟩ (.inl ⟨j, ax, rfl, ha, rfl⟩) ?_ ?_)
    · intro i cv hp hi
      obtain ⟨cv', e1, e2⟩ := rvs.get i _ (List.getElem?_eq_getElem hi)
      have : items[i]? = some cv := by simpa using hp
      rw [e1] at this
      cases this
      exact ⟨_, List.getElem?_eq_getElem hi, e2⟩
    · intro b hb
      rcases List.mem_cons.mp hb with rfl | hb
      · exact .inl rfl
      · have := List.mem_singleton.mp hb
        subst this
        exact .inr ⟨o, h2.1, .inl (.head _)⟩
    · rintro i h ⟨⟨o, e1, e2, e3⟩, _⟩
      exact ⟨o, _, _, e1, e2, e3, .inl rfl⟩
    · exact ⟨⟨_, Heap.get?_push_size _ rfl, rfl, rfl⟩, L1.push _⟩
    · intro b hb
      rcases List.mem_cons.mp hb with rfl | hb
      · exact Nat.le_refl _
      · rw [List.mem_singleton.mp hb]; exact Nat.le_of_lt hlt
  · exact q.elim

theorem RelM.freeze (R : RelM C σ m ad news) {v : AV} {cv : Value} {fs : List Addr} (hf : fsOf v ad fs) (hl : ∀ j, v = .lst j → ∃ l, σ.objs[j]? = some l) : RelM { C with fz := fs ++ C.fz } { σ with own := frozen v σ.own } m ad news := by
  rcases hf with ⟨j, ax, rfl, ha, rfl⟩ | ⟨hn, rfl⟩
  · refine ⟨R.loc, R.len, R.obj, fun i hi => ?_, R.inj, fun a ha' => ?_, R.cells⟩
    · simp only [frozen, List.mem_filter, bne_iff_ne, ne_eq] at hi
      obtain ⟨a, o, h1, h2, h3⟩ := R.own i hi.1
      refine ⟨a, o, h1, h2, ?_⟩
      show a ∉ [ax] ++ C.fz
      simp only [List.cons_append, List.nil_append, List.mem_cons, not_or]
      refine ⟨?_, h3⟩
      rintro rfl
      exact hi.2 (R.inj i j a h1 ha)
    · have ha' : a ∈ [ax] ++ C.fz := ha'
      simp only [List.cons_append, List.nil_append, List.mem_cons] at ha'
      rcases ha' with rfl | ha'
      · obtain ⟨l, hl⟩ := hl j rfl
        obtain ⟨a', its, o, h1, h2, h3⟩ := R.obj j l hl
        rw [ha] at h1
        cases h1
        exact ⟨o, h2.1, its, h2.2⟩
      · exact R.fzin a ha'
  · have e : frozen v σ.own = σ.own := by cases v <;> first | rfl | (exact absurd rfl (hn _))
    rw [e]
    exact ⟨R.loc, R.len, R.obj, R.own, R.inj, R.fzin, R.cells⟩
theorem RelM.thaw {v : AV} {fs : List Addr} {σ' : St} {m' : Str → Option Value} {ad' : List Addr} {news' : Led} (R : RelM { C with fz := fs ++ C.fz } σ' m' ad' news') (hf : fsOf v ad fs) (R₀ : RelM C σ m ad news) (l : Le (fs ++ C.fz) ad news ad' news') :
    RelM C { σ' with own := thawed v σ.own σ'.own } m' ad' news' := by
  have own' : ∀ i ∈ σ'.own, ∃ (a : Addr) (o : Obj), ad'[i]? = some a ∧ ((a, o) ∈ news' ∧ (∃ its, IsLx o its)) ∧ a ∉ C.fz := fun i hi => by
    obtain ⟨a, o, h1, h2, h3⟩ := R.own i hi
    exact ⟨a, o, h1, h2, fun h => h3 (List.mem_append_right _ h)⟩
  refine ⟨R.loc, R.len, R.obj, fun i hi => ?_, R.inj, fun a ha => R.fzin a (List.mem_append_right _ ha), R.cells⟩
  rcases hf with ⟨j, ax, rfl, ha, rfl⟩ | ⟨hn, rfl⟩
  · simp only [thawed] at hi
    split at hi
    · rename_i hc
      rcases List.mem_cons.mp hi with rfl | hi
      · obtain ⟨a, o, h1, h2, h3⟩ := R₀.own i (List.contains_iff_mem.mp hc)
        rw [ha] at h1
        cases h1
        exact ⟨ax, o, l.pre _ _ ha, ⟨l.keep _ _ h2.1 (.inl (List.mem_append_left _ (.head _))), h2.2⟩, h3⟩
      · exact own' i hi
    · exact own' i hi
  · have e : thawed v σ.own σ'.own = σ'.own := by cases v <;> first | rfl | (exact absurd rfl (hn _))
    rw [e] at hi
    exact own' i hi
end
end Mine
namespace Mine
open PySem PySem.W PySem.Calls PyProof.Rows PyProof.V PySem.Spec

theorem clos_go (env : Env) : ∀ (names : List (Str × NameKind)) (cs : List (Str × Addr)), (∀ y ∈ names, y.2 = .free → ∃ c, env.cells.lookup y.1 = some c) →
    ∃ cl, (forIn names cs fun (x : Str × NameKind) cs => (match x with | (name, kind) => if (kind == .free) = true then (do let a ← cellOf env name; pure (ForInStep.yield ((name, a) :: cs))) else pure (ForInStep.yield cs)) : Sem (List (Str × Addr))) = pure cl ∧
      (∀ x c, cl.lookup x = some c → cs.lookup x = some c ∨ env.cells.lookup x = some c) ∧ (∀ y ∈ names, y.2 = .free → ∃ c, cl.lookup y.1 = some c) ∧ (∀ x, (∃ c, cs.lookup x = some c) → ∃ c, cl.lookup x = some c)
  | [], cs, _ => ⟨cs, rfl, fun _ _ h => .inl h, fun y hy => (nomatch hy), fun _ h => h⟩
  | (n, k) :: r, cs, h => by
    by_cases hk : k = .free
    · subst hk
      obtain ⟨c, hc⟩ := h (n, .free) (.head _) rfl
      obtain ⟨cl, e1, e2, e3, e4⟩ := clos_go env r ((n, c) :: cs) fun y hy => h y (.tail _ hy)
      refine ⟨cl, ?_, fun x d hd => ?_, fun y hy hf => ?_, fun x hx => e4 x ?_⟩
      · rw [List.forIn_cons, ← e1]
        have : cellOf env n = pure c := by unfold cellOf; rw [hc]
        simp only [this]
        rfl
      · rcases e2 x d hd with h' | h'
        · simp only [List.lookup_cons] at h'
          split at h'
          · rename_i hx
            cases h'
            rw [eq_of_beq hx]
            exact .inr hc
          · exact .inl h'
        · exact .inr h'
      · rcases List.mem_cons.mp hy with rfl | hy
        · exact e4 n ⟨c, by simp [List.lookup_cons]⟩
        · exact e3 y hy hf
      · obtain ⟨d, hd⟩ := hx
        simp only [List.lookup_cons]
        split
        · exact ⟨c, rfl⟩
        · exact ⟨d, hd⟩
    · obtain ⟨cl, e1, e2, e3, e4⟩ := clos_go env r cs fun y hy => h y (.tail _ hy)
      refine ⟨cl, ?_, e2, fun y hy hf => ?_, e4⟩
      · rw [List.forIn_cons, ← e1]
        have : (k == NameKind.free) = false := by simpa using hk
        simp only [this]
        rfl
      · rcases List.mem_cons.mp hy with rfl | hy
        · exact absurd hf hk
        · exact e3 y hy hf
theorem clos (env : Env) (sc : Scope) (h : ∀ y ∈ sc.names, y.2 = .free → ∃ c, env.cells.lookup y.1 = some c) :
    ∃ cl, closureFor sc env = pure cl ∧ (∀ x c, cl.lookup x = some c → env.cells.lookup x = some c) ∧ (∀ y ∈ sc.names, y.2 = .free → ∃ c, cl.lookup y.1 = some c) := by
  obtain ⟨cl, e1, e2, e3, _⟩ := clos_go env sc.names [] h
  refine ⟨cl, ?_, fun x c hc => (e2 x c hc).elim (fun h => by cases h) id, e3⟩
  simp only [closureFor]
  exact congrArg (fun t : Sem (List (Str × Addr)) => t >>= fun s => pure s) e1

theorem lookup_relabel {env : Env} (hk : env.scope.kind = .function) : ∀ {names : List (Str × NameKind)} {x : Str} {k : NameKind}, names.lookup x = some k →
    (names.map fun (n, k) => if (k == NameKind.free && env.scope.kind == .function && env.kindOf n == some .cell) then (n, NameKind.cell) else (n, k)).lookup x =
      some (if (k == NameKind.free && env.kindOf x == some .cell) = true then .cell else k)
  | [], _, _, h => by simp at h
  | (n, k') :: r, x, k, h => by
    have ih := @lookup_relabel env hk r x k
    show List.lookup x ((if (k' == NameKind.free && env.scope.kind == .function && env.kindOf n == some .cell) = true then (n, NameKind.cell) else (n, k')) :: _) = _
    cases hx : x == n with
    | true =>
      simp only [List.lookup_cons, hx] at h
      cases h
      have := eq_of_beq hx
      subst this
      have e : (k' == NameKind.free && env.scope.kind == .function && env.kindOf x == some .cell) = (k' == NameKind.free && env.kindOf x == some .cell) := by rw [hk]; simp
      rw [e]
      by_cases hc : (k' == NameKind.free && env.kindOf x == some .cell) = true
      · rw [if_pos hc, if_pos hc]; simp [List.lookup_cons]
      · rw [if_neg hc, if_neg hc]; simp [List.lookup_cons]
    | false =>
      simp only [List.lookup_cons, hx] at h
      by_cases hc : (k' == NameKind.free && env.scope.kind == .function && env.kindOf n == some .cell) = true
      · rw [if_pos hc]; simp only [List.lookup_cons, hx]; exact ih h
      · rw [if_neg hc]; simp only [List.lookup_cons, hx]; exact ih h

noncomputable def childCx (C : Cx) (h : Heap) (xs : List Str) (caps gl : List Nat) (sc : Scope) (cl : List (Str × Addr)) (L D : Addr) : Cx :=
  { C with env := compEnvC sc cl L C.env, base := h, K := childKeys C.K xs caps gl, gval := childG C.gval gl, fns := noFns, fz := [D], ownCells := false }

structure ScopeOk (K : Keys) (xs : List Str) (caps gl : List Nat) (sc : Scope) : Prop where
  kind : sc.kind = .function
  nocell : ∀ y ∈ sc.names, y.2 ≠ .cell
  names : ∀ y ∈ sc.names, y.2 = .local → sc.names.lookup y.1 = some .local
  xl : ∀ x ∈ xs, sc.names.lookup x = some .local ∧ (x == ("__debug__" : Str)) = false
  cp : ∀ i ∈ caps, (i < K.names.length ∧ K.names.getD i "" ∈ K.cells) ∧ sc.names.lookup (K.names.getD i "") = some .free ∧ ((K.names.getD i "") == ("__debug__" : Str)) = false
  gb : ∀ i ∈ gl, i < K.globs.length ∧ sc.names.lookup (K.globs.getD i "") = some .globalImplicit
  nodup : (childKeys K xs caps gl).names.Nodup
  free : ∀ y ∈ sc.names, y.2 = .free → ∃ i ∈ caps, K.names.getD i "" = y.1
theorem scope_ok {K : Keys} {xs : List Str} {caps gl : List Nat} {sc : Scope} (h : scopeOk K xs caps gl sc = true) : ScopeOk K xs caps gl sc := by
  simp only [scopeOk, Bool.and_eq_true, List.all_eq_true, beq_iff_eq, bne_iff_ne, ne_eq, Bool.or_eq_true, decide_eq_true_eq, List.contains_iff_mem] at h
  obtain ⟨⟨h1, h2, h3⟩, h4, h5, h6, h7, h8⟩ := h
  refine ⟨h1, fun y hy => by simpa using h2 y hy, fun y hy e => ?_, fun x hx => ?_, fun i hi => ?_, fun i hi => h6 i hi, h7, fun y hy e => ?_⟩
  · rcases h3 y hy with h | h
    · exact absurd e (by simpa using h)
    · exact h
  · have := h4 x hx
    exact ⟨this.1, by simpa using this.2⟩
  · have := h5 i hi
    exact ⟨this.1, this.2.1, by simpa using this.2.2⟩
  · rcases h8 y hy with h | h
    · exact absurd e (by simpa using h)
    · obtain ⟨i, hi, e⟩ := List.mem_map.mp h
      exact ⟨i, hi, e⟩

theorem getD_get {l : List Str} {i : Nat} (h : i < l.length) : l[i]? = some (l.getD i "") := by simp [h]
theorem nodup_append_not {α : Type} {a b : List α} {x : α} (h : (a ++ b).Nodup) (hx : x ∈ a) : x ∉ b := fun hb => by
  have := List.nodup_append.mp h
  exact this.2.2 x hx x hb rfl

section
variable {C : Cx} {σ : St} {h : Heap} {m : Str → Option Value} {ad : List Addr} {news : Led} {xs : List Str} {caps gl : List Nat} {sc : Scope} {cl : List (Str × Addr)} {L D : Addr}

theorem child_ok (ok : CxOK C) (R : Rel C σ h m ad news) (S : ScopeOk C.K xs caps gl sc) (hc1 : ∀ x c, cl.lookup x = some c → C.env.cells.lookup x = some c) (hc2 : ∀ y ∈ sc.names, y.2 = .free → ∃ c, cl.lookup y.1 = some c) :
    CxOK (childCx C h xs caps gl sc cl L D) where
  hh := ok.hh
  htop := fun b o e => R.F.keep b o (ok.htop b o e)
  nb := noneKeeps ok.nb R.F.keep
  units := ok.units
  kind := S.kind
  nodup := S.nodup
  locs := fun x hx => by
    have hx : x ∈ xs ++ caps.map (fun i => C.K.names.getD i "") := hx
    rcases List.mem_append.mp hx with h1 | h1
    · have := S.xl x h1
      refine ⟨this.2, fun _ => ?_, fun h2 => absurd h2 (nodup_append_not S.nodup h1)⟩
      have e := lookup_relabel (env := C.env) ok.kind this.1
      exact e.trans (by simp)
    · obtain ⟨i, hi, rfl⟩ := List.mem_map.mp h1
      have := S.cp i hi
      refine ⟨this.2.2, fun h2 => absurd h1 h2, fun _ => ?_⟩
      have e := lookup_relabel (env := C.env) ok.kind this.2.1
      have hk := (ok.locs (C.K.names.getD i "") (List.mem_of_getElem? (getD_get this.1.1))).2.2 this.1.2
      refine e.trans ?_
      rw [hk]
      rfl
  cellinj := fun x hx y hy c h1 h2 => by
    have key : ∀ x ∈ (childKeys C.K xs caps gl).cells, x ∈ C.K.cells := fun x hx => by
      obtain ⟨i, hi, rfl⟩ := List.mem_map.mp hx
      exact (S.cp i hi).1.2
    exact ok.cellinj x (key x hx) y (key y hy) c (hc1 x c h1) (hc1 y c h2)
  cellat := fun x hx => by
    obtain ⟨i, hi, rfl⟩ := List.mem_map.mp hx
    have := (S.cp i hi).2.1
    exact hc2 _ (mem_of_lookup this) rfl
  g := ok.g.keeps R.F.keep
  b := ok.b.keeps R.F.keep
  eg := ok.eg
  eb := ok.eb
  globs := fun j x v hj hv => by
    have hj : (gl.map (fun i => C.K.globs.getD i ""))[j]? = some x := hj
    have hv : (gl[j]?).bind C.gval = some v := hv
    rw [List.getElem?_map] at hj
    cases hg : gl[j]? with
    | none => rw [hg] at hv; cases hv
    | some i =>
      rw [hg] at hj hv
      simp only [Option.map_some, Option.some.injEq] at hj
      have hS := S.gb i (List.mem_of_getElem? hg)
      have := ok.globs i x v (by rw [getD_get hS.1, hj]) hv
      refine ⟨⟨this.1.1, fun _ => ?_⟩, this.2⟩
      rw [← hj]
      have e := lookup_relabel (env := C.env) ok.kind hS.2
      exact e.trans (by simp)
  call := fun fz k args cargs σ Q s m ad news _ _ _ h => h.elim

noncomputable def capLoc (ℓ : Nat → Option AV) (k : Nat) (caps : List Nat) : Nat → Option AV := fun i => if i < k then none else (caps[i - k]?).bind ℓ

theorem child_rel (ok : CxOK C) (R : Rel C σ h m ad news) (S : ScopeOk C.K xs caps gl sc) (hc1 : ∀ x c, cl.lookup x = some c → C.env.cells.lookup x = some c) (hc2 : ∀ y ∈ sc.names, y.2 = .free → ∃ c, cl.lookup y.1 = some c)
    {σ' : St} {m' m₂ : Str → Option Value} {ad' : List Addr} {news' news₂ : Led} (pre : ∀ (i : Nat) (a : Addr), ad[i]? = some a → ad'[i]? = some a)
    (M : RelM (childCx C h xs caps gl sc cl L D) σ' m' ad' news') (k : ∀ a o, (a, o) ∈ news' → good o → (a, o) ∈ news₂) :
    RelM (childCx C h xs caps gl sc cl L D) ⟨capLoc σ.loc xs.length caps, σ'.objs, []⟩ m₂ ad' news₂ := by
  have hl : ∀ o its, IsL o its → good o := fun o its h => .inr (.inl h.1)
  have hk : ∀ a o, Held h news' a o → good o → Held h news₂ a o := fun a o x g => x.elim (fun y => .inl (k a o y g)) .inr
  have lt : LeT ad' news' ad' news₂ := ⟨fun _ _ h => h, fun a o hm hc => k a o hm (hc.elim .inl fun h => .inr (.inr (.inl h)))⟩
  refine ⟨fun n v hv => ?_, M.len, fun i l hl' => ?_, fun i hi => (nomatch hi), M.inj, fun a ha => ?_, fun hc => (nomatch hc)⟩
  · simp only [capLoc] at hv
    split at hv
    · cases hv
    · rename_i hn
      cases hi : caps[n - xs.length]? with
      | none => rw [hi] at hv; cases hv
      | some i =>
        rw [hi] at hv
        have hv : σ.loc i = some v := hv
        obtain ⟨x, cv, e1, e2, e3⟩ := R.M.loc i v hv
        have hS := S.cp i (List.mem_of_getElem? hi)
        have hx : x = C.K.names.getD i "" := by
          have := getD_get hS.1.1
          rw [e1] at this
          exact Option.some.inj this
        have hmem : x ∈ caps.map (fun i => C.K.names.getD i "") := List.mem_map.mpr ⟨i, List.mem_of_getElem? hi, hx.symm⟩
        refine ⟨x, cv, ?_, ?_, (down_RV R (led := []) e3).move pre fun a o _ hd => hd.elim (fun x => absurd x (List.not_mem_nil)) .inr⟩
        · show (xs ++ caps.map (fun i => C.K.names.getD i ""))[n]? = some x
          rw [List.getElem?_append_right (by omega), List.getElem?_map, hi, hx]
          rfl
        · unfold VarAt at e2 ⊢
          have hxc : x ∈ C.K.cells := hx ▸ hS.1.2
          rw [if_pos hxc] at e2
          rw [if_pos (show x ∈ (childCx C h xs caps gl sc cl L D).K.cells from hmem)]
          obtain ⟨c, o, f1, f2, f3⟩ := e2
          obtain ⟨c', hc'⟩ := hc2 (x, .free) (by rw [hx]; exact mem_of_lookup hS.2.1) rfl
          have := hc1 x c' hc'
          rw [f1] at this
          cases this
          exact ⟨c, o, hc', .inr (f2.get R), f3⟩
  · obtain ⟨a, its, o, e1, e2, e3⟩ := M.obj i l hl'
    exact ⟨a, its, o, e1, ⟨hk _ _ e2.1 (hl _ _ e2.2), e2.2⟩, e3.leT lt⟩
  · obtain ⟨o, e1, its, e2⟩ := M.fzin a ha
    exact ⟨o, hk _ _ e1 (hl _ _ e2), its, e2⟩
end
end Mine
namespace Mine
open PySem PySem.W PySem.Calls PyProof.Rows PyProof.V PySem.Spec

theorem loop_rule {prog : Program} {w : World} {A : Around} {R : Result → Shared → Prop} {s : Shared} {elt target iter : Expr} {ifs : List Expr} {scope : Scope} {pos : Pos} {it acc : Value} {env : Env} (I : Nat → Shared → Prop)
    (turn : ∀ n s, I n s → wpAny (model prog w) A (pyNext it) (fun r s₁ => match r with
      | none => R (.ok .next) s₁
      | some v => wpAny (model prog w) A (letOwnedTupleGo target it v) (fun _ s₁' => wpAny (model prog w) A (assign target env v) (fun _ s₂ =>
          wpAny (model prog w) A (forIn ifs true fun c r => if r = true then do let ok ← isTrue c env (eval c env); pure (ForInStep.yield ok) else pure (ForInStep.yield r)) (fun ok s₃ =>
            if ok = true then wpAny (model prog w) A (eval elt env) (fun x s₄ =>
              wpAny (model prog w) A (call (.builtin "list.append") [acc, x]) (fun _ s₅ => ∃ m, m < n ∧ I m s₅) NoE s₄) NoE s₃
            else ∃ m, m < n ∧ I m s₃) NoE s₂) NoE s₁') NoE s₁) NoE s)
    (n : Nat) (h : I n s) : codeAny (model prog w) A (.compLoop (.ListComp elt [⟨target, iter, ifs, 0⟩] scope pos) 0 it acc env) R s := by
  have no : ∀ {E : Value → Shared → Prop} (a : Value) (b : Shared), NoE a b → E a b := fun _ _ x => x.elim
  refine codeAny_loop rfl I (fun n s hI => ?_) n h
  show wpAny _ A ((compTurn (.ListComp elt [⟨target, iter, ifs, 0⟩] scope pos) 0 it acc env).onRaise (fun x => do noteFrame x env; theTreesLotGoes x)) _ _ s
  refine wpAny_noted ?_
  rw [compTurn_list]
  refine wpAny_bind (wpAny_standAt (wpAny_bind (wpAny_mono (turn n s hI) (fun r s₁ h₁ => ?_) no)))
  cases r with
  | none => exact wpAny_pure h₁
  | some v =>
    refine wpAny_bind (wpAny_mono h₁ (fun _ s₁' h₁' => ?_) no)
    refine wpAny_bind (wpAny_mono h₁' (fun _ s₂ h₂ => wpAny_bind (wpAny_mono h₂ (fun ok s₃ h₃ => ?_) no)) no)
    cases ok with
    | false => exact wpAny_pure ⟨rfl, h₃⟩
    | true =>
      exact wpAny_bind (wpAny_bind (wpAny_mono h₃ (fun x s₄ h₄ => wpAny_bind (wpAny_mono h₄ (fun _ s₅ h₅ => wpAny_pure (wpAny_pure ⟨rfl, h₅⟩)) no)) no))

noncomputable def SoundTs (C : Cx) (p : PEs) (es : List Expr) : Prop := ∀ (σ : St) (Q : Bool → St → Prop) (s : Shared) (m : Str → Option Value) (ad : List Addr) (news : Led),
  0 < s.toks → wpTs C.gval C.fns p σ Q → Rel C σ s.heap m ad news → Wp C (forIn es true fun c r => if r = true then do let ok ← isTrue c C.env (eval c C.env); pure (ForInStep.yield ok) else pure (ForInStep.yield r)) (PostB C Q s ad news) s

theorem sTsNil {C : Cx} : SoundTs C .nil [] := by
  intro σ Q s m ad news T q R
  exact wpAny_tests_nil ⟨σ, m, ad, news, q, R, Le.refl, Rest.refl⟩
theorem sTsOne {C : Cx} {p : PE} {e : Expr} (h : SoundT C p e) : SoundTs C (.cons p .nil) [e] := by
  intro σ Q s m ad news T q R
  refine wpAny_tests_one (wpAny_mono (h σ _ s m ad news T q (fun v σ' h => by obtain ⟨b, hb, _⟩ := truthW_iff.mp h; exact ⟨b, hb⟩) R) (fun b s₁ hp => ?_) fun _ _ x => x)
  obtain ⟨v, σ', m', ad', news', t, q₁, R', l, r⟩ := hp
  obtain ⟨b', hb, q₁⟩ := truthW_iff.mp q₁
  rw [t] at hb
  cases hb
  cases b
  · exact ⟨σ', m', ad', news', q₁.2 rfl, R', l, r⟩
  · exact ⟨σ', m', ad', news', q₁.1 rfl, R', l, r⟩

theorem setAll_eq : ∀ (ns : List Nat) (vs : List AV) (σ : St), (setAll σ ns vs).objs = σ.objs ∧ (setAll σ ns vs).own = σ.own
  | [], _, _ => ⟨rfl, rfl⟩
  | _ :: _, [], _ => ⟨rfl, rfl⟩
  | n :: ns, v :: vs, σ => setAll_eq ns vs (σ.set n v)
theorem setAll_loc : ∀ (k a : Nat) (vs : List AV) (σ : St), vs.length = k → ∀ i, (setAll σ (List.range' a k) vs).loc i = if a ≤ i ∧ i < a + k then vs[i - a]? else σ.loc i
  | 0, a, [], σ, _, i => by simp [setAll, List.range']; intro h1 h2; (first | lia | omega)
  | k + 1, a, v :: vs, σ, hl, i => by
    rw [List.range'_succ]
    show (setAll (σ.set a v) (List.range' (a + 1) k) vs).loc i = _
    rw [setAll_loc k (a + 1) vs (σ.set a v) (by simpa using hl) i]
    by_cases h1 : i = a
    · subst h1
      rw [if_neg (by (first | lia | omega)), if_pos (by (first | lia | omega))]
      simp [St.set, upd]
    · by_cases h2 : a + 1 ≤ i ∧ i < a + 1 + k
      · rw [if_pos h2, if_pos (by (first | lia | omega))]
        have : i - a = (i - (a + 1)) + 1 := by (first | lia | omega)
        rw [this, List.getElem?_cons_succ]
      · rw [if_neg h2, if_neg (by (first | lia | omega))]
        simp [St.set, upd, h1]
  | 0, _, _ :: _, _, h, _ => by cases h
  | _ + 1, _, [], _, h, _ => by cases h
theorem setAll_child (ℓ : Nat → Option AV) (caps : List Nat) (objs : List (List AV)) (k : Nat) (vs : List AV) (h : vs.length = k) :
    setAll ⟨capLoc ℓ k caps, objs, []⟩ (List.range' 0 k) vs = ⟨childLoc ℓ vs caps, objs, []⟩ := by
  have e := setAll_eq (List.range' 0 k) vs ⟨capLoc ℓ k caps, objs, []⟩
  have e2 := setAll_loc k 0 vs ⟨capLoc ℓ k caps, objs, []⟩ h
  generalize setAll ⟨capLoc ℓ k caps, objs, []⟩ (List.range' 0 k) vs = σ at *
  obtain ⟨a, b, c⟩ := σ
  simp only at e e2
  obtain ⟨rfl, rfl⟩ := e
  congr 1
  funext i
  rw [e2 i]
  subst h
  simp only [childLoc, capLoc]
  by_cases hi : i < vs.length
  · rw [if_pos (by omega), if_pos hi]; rfl
  · rw [if_neg (by omega), if_neg hi, if_neg hi]

theorem nameOf_inv {e : Expr} {x : Str} (h : nameOf e = some x) : ∃ p, e = .Name x p := by
  cases e <;> first | (cases h; done) | skip
  cases h
  exact ⟨_, rfl⟩
theorem tupleOf_inv {e : Expr} {es : List Expr} (h : tupleOf e = some es) : ∃ k p, e = .Tuple es k p := by
  cases e <;> first | (cases h; done) | skip
  cases h
  exact ⟨_, _, rfl⟩
theorem mapM_cons {e : Expr} {es : List Expr} {xs : List Str} (h : (e :: es).mapM nameOf = some xs) : ∃ x ys, nameOf e = some x ∧ es.mapM nameOf = some ys ∧ xs = x :: ys := by
  rw [List.mapM_cons] at h
  cases he : nameOf e with
  | none => rw [he] at h; cases h
  | some x =>
    rw [he] at h
    cases hr : es.mapM nameOf with
    | none => rw [hr] at h; cases h
    | some ys => rw [hr] at h; cases h; exact ⟨x, ys, rfl, rfl, rfl⟩
theorem names_map : ∀ (es : List Expr) (xs : List Str), es.mapM nameOf = some xs → xs.length = es.length ∧ ∀ (i : Nat) (e : Expr), es[i]? = some e → ∃ x p, e = .Name x p ∧ xs[i]? = some x
  | [], xs, h => by
    cases h
    exact ⟨rfl, fun i e h => nomatch h⟩
  | e :: es, xs, h => by
    obtain ⟨x, ys, he, hr, rfl⟩ := mapM_cons h
    obtain ⟨p, rfl⟩ := nameOf_inv he
    obtain ⟨e1, e2⟩ := names_map es ys hr
    refine ⟨congrArg Nat.succ e1, fun i e' h => ?_⟩
    cases i with
    | zero => cases h; exact ⟨_, _, rfl, rfl⟩
    | succ i => exact e2 i e' h
theorem zip_all (K : Keys) (ys : List Str) : ∀ (es : List Expr) (xs : List Str) (a : Nat), es.mapM nameOf = some xs → (∀ (i : Nat) (x : Str), xs[i]? = some x → K.names[a + i]? = some x) →
    (((List.range' a es.length).zip es).all fun p => match p.2 with | .Name x _ => K.names[p.1]? == some x | _ => false) = true
  | [], _, _, _, _ => rfl
  | e :: es, xs, a, h, hk => by
    obtain ⟨x, ys', he, hr, rfl⟩ := mapM_cons h
    obtain ⟨p, rfl⟩ := nameOf_inv he
    have := zip_all K ys es ys' (a + 1) hr fun i y hy => by
      rw [Nat.add_assoc, Nat.add_comm 1]
      exact hk (i + 1) y hy
    have h0 := hk 0 x rfl
    simp only [List.length_cons, List.range'_succ, List.zip_cons_cons, List.all_cons, Bool.and_eq_true, this, and_true]
    exact beq_iff_eq.mpr h0
noncomputable def tgtOf : Option Nat → Tgt
  | none => .name 0
  | some k => .tup (List.range' 0 k)
theorem tgt_inv {o : Option Nat} {tgt : Expr} {xs : List Str} (hx : tgtNames o tgt = some xs) : (o = none ∧ ∃ x p, tgt = .Name x p ∧ xs = [x]) ∨ ∃ es k p, o = some es.length ∧ tgt = .Tuple es k p ∧ es.mapM nameOf = some xs := by
  cases o with
  | none =>
    obtain ⟨x, hn, rfl⟩ := Option.map_eq_some_iff.mp hx
    obtain ⟨p, rfl⟩ := nameOf_inv hn
    exact .inl ⟨rfl, _, _, rfl, rfl⟩
  | some n =>
    obtain ⟨es, ht, hy⟩ := Option.bind_eq_some_iff.mp hx
    clear hx
    obtain ⟨k, p, rfl⟩ := tupleOf_inv ht
    split at hy
    · rename_i hl
      exact .inr ⟨es, k, p, by rw [eq_of_beq hl], rfl, hy⟩
    · cases hy
theorem tgt_match {o : Option Nat} {tgt : Expr} {xs : List Str} (hx : tgtNames o tgt = some xs) (K : Keys) (hk : ∀ (i : Nat) (x : Str), xs[i]? = some x → K.names[i]? = some x) : mT K (tgtOf o) tgt = true := by
  rcases tgt_inv hx with ⟨rfl, x, p, rfl, rfl⟩ | ⟨es, k, p, rfl, rfl, h⟩
  · exact beq_iff_eq.mpr (hk 0 _ rfl)
  · simp only [mT, tgtOf, List.length_range', beq_self_eq_true, Bool.true_and]
    exact zip_all K xs es xs 0 h fun i x h => by rw [Nat.zero_add]; exact hk i x h
theorem tgt_ids {o : Option Nat} {tgt : Expr} {xs : List Str} (hx : tgtNames o tgt = some xs) : ∀ n ∈ (tgtOf o).ids, n < xs.length := by
  rcases tgt_inv hx with ⟨rfl, x, p, rfl, rfl⟩ | ⟨es, k, p, rfl, rfl, h⟩
  · intro n hn
    rw [List.mem_singleton.mp hn]
    exact Nat.one_pos
  · intro n hn
    obtain ⟨i, hi, rfl⟩ := List.mem_range'.mp (show n ∈ List.range' 0 es.length from hn)
    rw [(names_map es xs h).1]
    omega
theorem bind_child {o : Option Nat} {tgt : Expr} {xs : List Str} (hx : tgtNames o tgt = some xs) {u : AV} {objs : List (List AV)} {ℓ : Nat → Option AV} {caps : List Nat} {K : St → Prop}
    (q : partsW o u objs fun us => K ⟨childLoc ℓ us caps, objs, []⟩) : bindW (tgtOf o) u ⟨capLoc ℓ xs.length caps, objs, []⟩ K := by
  rcases tgt_inv hx with ⟨rfl, x, p, rfl, rfl⟩ | ⟨es, k, p, rfl, rfl, h⟩
  · have e := setAll_child ℓ caps objs 1 [u] rfl
    show K (setAll _ (List.range' 0 1) [u])
    exact e ▸ q
  · have hlen := (names_map es xs h).1
    show partsW (some (List.range' 0 es.length).length) u objs fun vs => K (setAll _ (List.range' 0 es.length) vs)
    rw [List.length_range', hlen]
    generalize es.length = k at *
    unfold partsW at q ⊢
    split at q
    · rename_i h; cases h
    · rename_i n h
      cases h
      simp only
      split at q
      · refine ⟨q.1, ?_⟩
        rw [setAll_child ℓ caps objs k _ q.1]
        exact q.2
      · obtain ⟨l, h1, h2, q⟩ := q
        refine ⟨l, h1, h2, ?_⟩
        rw [setAll_child ℓ caps objs k _ h2]
        exact q
      · exact q
end Mine
namespace Mine
open PySem PySem.W PySem.Calls PyProof.Rows PyProof.V PySem.Spec

noncomputable def compTurnW (g : Nat → Option AV) (ℓ : Nat → Option AV) (elt : PE) (o : Option Nat) (caps gl : List Nat) (ifs : PEs) (u : AV) (objs : List (List AV)) (K : Option AV → List (List AV) → Prop) : Prop :=
  partsW o u objs fun us => wpTs (childG g gl) noFns ifs ⟨childLoc ℓ us caps, objs, []⟩ fun ok σ₂ =>
        (ok = true → wpE (childG g gl) noFns elt σ₂ fun x σ₃ => K (some x) σ₃.objs) ∧ (ok = false → K none σ₂.objs)

section
variable {C : Cx} {σ : St} {s : Shared} {m : Str → Option Value} {ad : List Addr} {news : Led} {xs : List Str} {caps gl : List Nat} {sc : Scope} {cl : List (Str × Addr)}
  {elt : PE} {o : Option Nat} {ifs : PEs} {elt' tgt iter' : Expr} {ifs' : List Expr} {pos : Pos}

structure CompDone (C : Cx) (Cc : Cx) (s : Shared) (ad : List Addr) (n : Nat) (D L : Addr) (objs : List (List AV)) (h : Heap) (m' : Str → Option Value) (ad' : List Addr) (news' : Led) : Prop where
  R : Rel Cc ⟨fun _ => none, objs, []⟩ h m' ad' news'
  pre : ∀ (i : Nat) (a : Addr), ad[i]? = some a → ad'[i]? = some a
  at_ : ad'[n]? = some D
  held : ∃ o its, (D, o) ∈ news' ∧ IsLx o its

noncomputable def LoopInv (Cc : Cx) (ℓ : Nat → Option AV) (I : Addr) (St : Nat → Heap → Prop) (ad : List Addr) (n : Nat) (turn : AV → List (List AV) → (Option AV → List (List AV) → Prop) → Prop) (items : List AV) (Qf : List (List AV) → Prop) (s : Shared) (k : Nat) (s' : Shared) : Prop :=
  ∃ i h tk m' ad' news' objs, (k = items.length - i ∧ i ≤ items.length) ∧ (s' = { s with heap := h, toks := tk } ∧ 0 < tk) ∧ Rel Cc ⟨ℓ, objs, []⟩ h m' ad' news' ∧
        (∀ p ∈ news', p.1 ≠ I) ∧ St i h ∧ (∀ (i : Nat) (a : Addr), ad[i]? = some a → ad'[i]? = some a) ∧ ad'[n]? = some (I + 1) ∧ (∃ o' its, (I + 1, o') ∈ news' ∧ IsLx o' its ∧ its.length ≤ i) ∧
        compL turn n (items.drop i) objs Qf

theorem comp_back (ok : CxOK C) (R : Rel C σ s.heap m ad news) (S : ScopeOk C.K xs caps gl sc) (hc1 : ∀ x c, cl.lookup x = some c → C.env.cells.lookup x = some c) (hc2 : ∀ y ∈ sc.names, y.2 = .free → ∃ c, cl.lookup y.1 = some c)
    {I : Addr} {items : List AV} {fp fs : List Addr} {P : Nat → Value → Prop} {St : Nat → Heap → Prop} {Qf : List (List AV) → Prop} {turn : AV → List (List AV) → (Option AV → List (List AV) → Prop) → Prop} {n i : Nat} {h' : Heap} {oI : Obj} {ad' : List Addr}
    (it : Iter C items ad news I fp fs P St) (hlt : i < items.length) (hst' : St (i + 1) h') (eI : h'.get? I = some oI) (hngI : ¬ good oI) (keep : ∀ b o', s.heap.get? b = some o' → h'.get? b = some o')
    (pre : ∀ (i : Nat) (a : Addr), ad[i]? = some a → ad'[i]? = some a) (hat : ad'[n]? = some (I + 1))
    {σx : Mine.St} {hx' : Heap} {tkx : Nat} {mx : Str → Option Value} {adx : List Addr} {newsx : Led} (Rx : Rel (childCx C s.heap xs caps gl sc cl (I + 2) (I + 1)) σx hx' mx adx newsx) (hIx : (I, oI) ∈ newsx) (prex : ∀ (i : Nat) (a : Addr), ad'[i]? = some a → adx[i]? = some a)
    (hD : ∃ o' its, (I + 1, o') ∈ newsx ∧ IsLx o' its ∧ its.length ≤ i + 1) (qx : compL turn n (items.drop (i + 1)) σx.objs Qf) (T : 0 < tkx) :
    ∃ m, m < items.length - i ∧ LoopInv (childCx C s.heap xs caps gl sc cl (I + 2) (I + 1)) (capLoc σ.loc xs.length caps) I St ad n turn items Qf s m { s with heap := hx', toks := tkx } := by
  obtain ⟨oD', its', hmD', hLD', hlD'⟩ := hD
  have hsub := sub_filter Rx.N hIx hngI
  refine ⟨items.length - (i + 1), Nat.sub_lt_sub_left hlt (Nat.lt_succ_self i), i + 1, hx', tkx, mx, adx, newsx.filter fun p => p.1 != I, σx.objs, ⟨rfl, hlt⟩, ⟨rfl, T⟩, ⟨Rx.F, fun p hp => Rx.N p (List.mem_filter.mp hp).1, ?_⟩, ?_, ?_, ?_, ?_, ⟨oD', its', hsub _ _ hmD' (.inr (.inl hLD'.toL.1)), hLD', hlD'⟩, qx⟩
  · exact child_rel ok R S hc1 hc2 (fun i a h => prex i a (pre i a h)) Rx.M hsub
  · intro p hp
    simpa using (List.mem_filter.mp hp).2
  · refine it.W.frame _ _ _ hst' fun b hb o' e => ?_
    rcases it.fpIn b hb with rfl | ⟨o₂, hh, _⟩
    · rw [eI] at e
      cases e
      exact (Rx.N _ hIx).1
    · have e1 := hh.get R
      have e2 : h'.get? b = some o₂ := keep _ _ e1
      rw [e] at e2
      cases e2
      exact Rx.F.keep _ _ e1
  · exact fun i a h => prex i a (pre i a h)
  · exact prex _ _ hat

theorem comp_M0 (R : Rel C σ s.heap m ad news) {I : Addr} (hI : s.heap.objs.size = I) : RelM (childCx C s.heap xs caps gl sc cl (I + 2) (I + 1)) ⟨fun _ => none, σ.objs ++ [[]], []⟩ (fun _ => none) (ad ++ [I + 1]) [(I + 1, lstObj [] 0)] := by
  have hlen : ad.length = σ.objs.length := R.M.len
  have hadlt : ∀ (i : Nat) (a : Addr), ad[i]? = some a → a < I := fun i a h => hI ▸ R.lt h
  refine ⟨fun n v h => (by cases h), (by simp [hlen]), fun i l hl => ?_, fun i hi => (nomatch hi), fun i j a h1 h2 => ?_, fun a ha => ?_, fun hc => (nomatch hc)⟩
  · by_cases hi : i < σ.objs.length
    · simp only [List.getElem?_append_left hi] at hl
      obtain ⟨a, its, o', e1, e2, e3⟩ := R.M.obj i l hl
      exact ⟨a, its, o', snoc_pre i a e1, ⟨.inr (e2.1.get R), e2.2⟩, (down_RVs R (led := [(I + 1, lstObj [] 0)]) e3).le (fz := []) (.all snoc_pre fun _ h => h)⟩
    · have hi2 : i = σ.objs.length := by
        have := (List.getElem?_eq_some_iff.mp hl).1
        simp at this
        (first | lia | omega)
      subst hi2
      simp only [List.getElem?_concat_length, Option.some.injEq] at hl
      subst hl
      exact ⟨I + 1, [], _, by rw [← hlen, List.getElem?_concat_length], ⟨.inl (.head _), rfl, 0, rfl⟩, .nil⟩
  · have key : ∀ i : Nat, (ad ++ [I + 1])[i]? = some a → (i < ad.length ∧ ad[i]? = some a) ∨ (i = ad.length ∧ a = I + 1) := by
      intro i hi
      by_cases h : i < ad.length
      · rw [List.getElem?_append_left h] at hi
        exact .inl ⟨h, hi⟩
      · have hi2 : i = ad.length := by
          have := (List.getElem?_eq_some_iff.mp hi).1
          simp only [List.length_append, List.length_cons, List.length_nil] at this
          (first | lia | omega)
        subst hi2
        simp only [List.getElem?_concat_length, Option.some.injEq] at hi
        exact .inr ⟨rfl, hi.symm⟩
    rcases key i h1 with ⟨_, g1⟩ | ⟨g1, g1'⟩ <;> rcases key j h2 with ⟨_, g2⟩ | ⟨g2, g2'⟩
    · exact R.M.inj i j a g1 g2
    · have h := hadlt _ _ g1; rw [g2'] at h; exact absurd h (Nat.not_lt.mpr (Nat.le_succ I))
    · have h := hadlt _ _ g2; rw [g1'] at h; exact absurd h (Nat.not_lt.mpr (Nat.le_succ I))
    · (first | lia | omega)
  · have : a = I + 1 := List.mem_singleton.mp ha
    subst this
    exact ⟨_, .inl (.head _), [], rfl, 0, rfl⟩

theorem comp_turn (okc : CxOK C) (hfn : C.fns = noFns) (h2 : SoundE C elt elt') (h3 : SoundTs C ifs ifs') {t : Tgt} {u : AV} {v : Value} {h' : Heap} {tk' n i : Nat} {D I : Addr} {oI oD : Obj} {its : List Value} {Nx : List (List AV) → Prop} {Post : Shared → Prop}
    (hm : mT C.K t tgt = true) (hs : mayStore C t.ids) (q : bindW t u σ fun σ' => wpTs C.gval noFns ifs σ' fun ok σ₂ => (ok = true → wpE C.gval noFns elt σ₂ fun x σ₃ => Nx (appendAt σ₃.objs n x)) ∧ (ok = false → Nx σ₂.objs))
    (T : 0 < tk') (R1 : Rel C σ h' m ad news) (rv : RV C.base C.fa ad news u v) (hI : (I, oI) ∈ news) (hngI : ¬ good oI) (hD : (D, oD) ∈ news) (hLD : IsLx oD its) (hlD : its.length ≤ i) (hi : i < sizeLine) (hat : ad[n]? = some D) (hfz : D ∈ C.fz) (hDI : I ≠ D)
    (back : ∀ (σx : Mine.St) (hx' : Heap) (tkx : Nat) (mx : Str → Option Value) (adx : List Addr) (newsx : Led), Rel C σx hx' mx adx newsx → (I, oI) ∈ newsx → (∀ (i : Nat) (a : Addr), ad[i]? = some a → adx[i]? = some a) →
      (∃ o' its, (D, o') ∈ newsx ∧ IsLx o' its ∧ its.length ≤ i + 1) → Nx σx.objs → 0 < tkx → Post { s with heap := hx', toks := tkx }) :
    wpAny (model C.prog C.w) C.A (assign tgt C.env v) (fun _ s₂ =>
          wpAny (model C.prog C.w) C.A (forIn ifs' true fun c r => if r = true then do let ok ← isTrue c C.env (eval c C.env); pure (ForInStep.yield ok) else pure (ForInStep.yield r)) (fun ok s₃ =>
            if ok = true then wpAny (model C.prog C.w) C.A (eval elt' C.env) (fun x s₄ =>
              wpAny (model C.prog C.w) C.A (call (.builtin "list.append") [.ref D, x]) (fun _ s₅ => Post s₅) NoE s₄) NoE s₃
            else Post s₃) NoE s₂) NoE { s with heap := h', toks := tk' } := by
  have no : ∀ {E : Value → Shared → Prop} (a : Value) (b : Shared), NoE a b → E a b := fun _ _ x => x.elim
  rw [← hfn] at q
  refine withT (C := C) T (bind_sound (s := { s with heap := h', toks := tk' }) okc hm hs q R1 rv ?_)
  rintro σ₁ h₁ tk₁ m₁ news₁ q₁ R₁ l₁ T₁
  refine wpAny_mono (wpAny_toks (h3 σ₁ _ { s with heap := h₁, toks := tk₁ } m₁ ad news₁ T₁ q₁ R₁)) (fun okb s₂ hp => ?_) (fun a b x => no a b x.2)
  obtain ⟨ht₂, σ₂, m₂, ad₂, news₂, q₂, R₂, l₂, ⟨h₂, tk₂, rfl⟩⟩ := hp
  have T₂ : 0 < tk₂ := Nat.lt_of_lt_of_le T₁ ht₂
  have hI₂ : (I, oI) ∈ news₂ := l₂.keep _ _ (l₁.keep _ _ hI (.inr (bad_keep hngI))) (.inr (bad_keep hngI))
  have hD₂ : (D, oD) ∈ news₂ := l₂.keep _ _ (l₁.keep _ _ hD (.inl hfz)) (.inl hfz)
  cases okb with
  | false =>
    simp only [Bool.false_eq_true, if_false]
    exact back σ₂ h₂ tk₂ m₂ ad₂ news₂ R₂ hI₂ l₂.pre ⟨oD, its, hD₂, hLD, by omega⟩ (q₂.2 rfl) T₂
  | true =>
    simp only [if_true]
    refine wpAny_mono (wpAny_toks (h2 σ₂ _ { s with heap := h₂, toks := tk₂ } m₂ ad₂ news₂ T₂ (q₂.1 rfl) R₂)) (fun cx s₃ hp => ?_) (fun a b x => no a b x.2)
    obtain ⟨ht₃, x, σ₃, m₃, ad₃, news₃, q₃, rvx, R₃, l₃, ⟨h₃, tk₃, rfl⟩⟩ := hp
    have hI₃ : (I, oI) ∈ news₃ := l₃.keep _ _ hI₂ (.inr (bad_keep hngI))
    have hD₃ : (D, oD) ∈ news₃ := l₃.keep _ _ hD₂ (.inl hfz)
    have hat₃ : ad₃[n]? = some D := l₃.pre _ _ (l₂.pre _ _ hat)
    have hgD₃ := (R₃.N _ hD₃).1
    have hn₃ : n < σ₃.objs.length := by
      have := (List.getElem?_eq_some_iff.mp hat₃).1
      rw [R₃.M.len] at this
      exact this
    have e₃ : σ₃.objs[n]? = some (σ₃.objs.getD n []) := by
      simp [hn₃]
    obtain ⟨a₃, its₃, o₃, f1, f2, f3⟩ := R₃.M.obj _ _ e₃
    rw [hat₃] at f1
    cases f1
    have f4 := f2.1.get R₃
    rw [hgD₃] at f4
    cases f4
    have hits : its₃ = its := by
      obtain ⟨_, n1, d1⟩ := f2.2
      obtain ⟨_, n2, d2⟩ := hLD.toL
      rw [d1] at d2
      injection d2 with d3
      simpa using d3
    subst hits
    obtain ⟨nD, hnD⟩ := hLD
    refine append_at (D := D) (its := its₃.toArray) (n := nD) (by rw [hgD₃, hnD]) (fun h₄ hs₄ g1 => ?_) (by simp only [List.size_toArray]; omega)
    have hL₄ : IsLx (lstObj (its₃ ++ [cx]) (nD + 1)) (its₃ ++ [cx]) := ⟨_, rfl⟩
    rw [show (its₃.toArray.push cx) = (its₃ ++ [cx]).toArray by simp] at g1
    have R₄ := R₃.update hat₃ ⟨_, _, hD₃, f2.2⟩ hL₄ hs₄ g1 (f3.append (.cons _ _ _ _ rvx .nil))
    refine back _ h₄ tk₃ m₃ ad₃ _ R₄ (.tail _ (List.mem_filter.mpr ⟨hI₃, by simpa using hDI⟩)) (fun i a h => l₃.pre i a (l₂.pre i a h)) ⟨_, _, .head _, hL₄, by simp; omega⟩ q₃ (Nat.lt_of_lt_of_le T₂ ht₃)

theorem comp_block (ok : CxOK C) (S : ScopeOk C.K xs caps gl sc) (hx : tgtNames o tgt = some xs) (hc1 : ∀ x c, cl.lookup x = some c → C.env.cells.lookup x = some c) (hc2 : ∀ y ∈ sc.names, y.2 = .free → ∃ c, cl.lookup y.1 = some c)
    (h2 : ∀ C', CxOK C' → C'.K = childKeys C.K xs caps gl → SoundE C' elt elt') (h3 : ∀ C', CxOK C' → C'.K = childKeys C.K xs caps gl → SoundTs C' ifs ifs')
    {items : List AV} {io : Obj} {fp fs : List Addr} {P : Nat → Value → Prop} {St : Nat → Heap → Prop} {Qf : List (List AV) → Prop} {RR : Value → Addr → Result → Shared → Prop}
    (T0 : 0 < s.toks) (R : Rel C σ s.heap m ad news) (it : Iter C items ad news s.heap.objs.size fp fs P St) (hst : St 0 (s.heap.push io)) (hfp : ∀ b ∈ fp, b ≤ s.heap.objs.size) (hsz : items.length ≤ sizeLine)
    (q : compL (compTurnW C.gval σ.loc elt o caps gl ifs) σ.objs.length items (σ.objs ++ [[]]) Qf)
    (hRR : ∀ D L h tk m' ad' news' objs, D = s.heap.objs.size + 1 → L = s.heap.objs.size + 2 → CompDone C (childCx C s.heap xs caps gl sc cl L D) s ad σ.objs.length D L objs h m' ad' news' → Qf objs → RR (.ref D) L (.ok .next) { s with heap := h, toks := tk }) :
    Wp C (newList []) (fun acc s₃ => Wp C (newFunctionEnv sc C.env.globals cl [] C.env.qual none .none (some C.env)) (fun cenv s₄ =>
      codeAny (model C.prog C.w) C.A (.compStart (.ListComp elt' [⟨tgt, iter', ifs', 0⟩] sc pos) 0 (.ref s.heap.objs.size) acc { cenv with scope := relabel sc C.env }) (RR acc cenv.locals) s₄) s₃) { s with heap := s.heap.push io } := by
  refine wpAny_newObj_type (wpAny_newFunctionEnv S.nocell (by intro y hy; simp at hy) (fun h₁ hns₁ hsb₁ => ?_) S.kind)
  dsimp only at hns₁ hsb₁ ⊢
  have hD : (s.heap.push io).objs.size = s.heap.objs.size + 1 := Heap.size_push ..
  generalize hH2 : (s.heap.push io).push { cls := .type "list", dict := none, data := .seq ([] : List Value).toArray } = H2 at hns₁ hsb₁ ⊢
  have hL : H2.objs.size = s.heap.objs.size + 2 := by rw [← hH2, Heap.size_push, Heap.size_push]
  rw [hL] at hns₁ hsb₁ ⊢
  rw [hD]
  generalize hI : s.heap.objs.size = I at *
  have n1 : @Ne Nat I (I + 2) := by (first | lia | omega)
  have n2 : @Ne Nat (I + 1) (I + 2) := by (first | lia | omega)
  have hpu : ∀ (o' : Obj), (H2.push o').objs.size = I + 3 := fun o' => by rw [Heap.size_push, hL]
  have old : ∀ b o', s.heap.get? b = some o' → h₁.get? b = some o' := fun b o' e => by
    have hb : b < I := hI ▸ Heap.lt_size e
    exact hsb₁.extBut b o' (Nat.ne_of_lt (Nat.lt_of_lt_of_le hb (Nat.le_add_right I 2))) (Heap.get?_push_of_some _ (hH2 ▸ Heap.get?_push_of_some _ (Heap.get?_push_of_some _ e)))
  have gI : (s.heap.push io).get? I = h₁.get? I := by
    obtain ⟨oI, _, _, e, _⟩ := it.plain 0 _ hst
    rw [e]
    exact (hsb₁.extBut I oI n1 (Heap.get?_push_of_some _ (hH2 ▸ Heap.get?_push_of_some _ e))).symm
  have gD : h₁.get? (I + 1) = some (lstObj [] 0) := by
    refine hsb₁.extBut (I + 1) _ n2 (Heap.get?_push_of_some _ (hH2 ▸ ?_))
    rw [← hD]
    exact Heap.get?_push_size _ rfl
  have fresh : ∀ a, I ≤ a → s.heap.get? a = none := fun a ha => by
    cases e : s.heap.get? a with
    | none => rfl
    | some o' => exact absurd (Heap.lt_size e) (by rw [hI]; exact Nat.not_lt.mpr ha)
  have okc : CxOK (childCx C s.heap xs caps gl sc cl (I + 2) (I + 1)) := child_ok ok R S hc1 hc2
  have hlen : ad.length = σ.objs.length := R.M.len
  have hadlt : ∀ (i : Nat) (a : Addr), ad[i]? = some a → a < I := fun i a h => hI ▸ R.lt h
  have M0 := comp_M0 (xs := xs) (caps := caps) (gl := gl) (sc := sc) (cl := cl) R hI
  have F0 : Fr s.heap (I + 2) h₁ (fun x => ([] : List (Str × Value)).reverse.lookup x) := ⟨hns₁, old, by rw [hI]; (first | lia | omega)⟩
  have N0 : News s.heap (I + 2) h₁ [(I + 1, lstObj [] 0)] := by
    intro p hp
    rw [List.mem_singleton.mp hp]
    exact ⟨gD, n2, fresh _ (Nat.le_succ _)⟩
  have st0 : St 0 h₁ := it.W.frame 0 _ _ hst fun b hb o' e => by
    rcases it.fpIn b hb with rfl | ⟨o₂, h, _⟩
    · rw [← gI]; exact e
    · have e1 := h.get R
      have e2 := Heap.get?_push_of_some io e1
      rw [e] at e2
      cases e2
      exact old _ _ e1
  have no : ∀ {E : Value → Shared → Prop} (a : Value) (b : Shared), NoE a b → E a b := fun _ _ x => x.elim
  have loop : codeAny (model C.prog C.w) C.A (.compLoop (.ListComp elt' [⟨tgt, iter', ifs', 0⟩] sc pos) 0 (.ref I) (.ref (I + 1)) (compEnvC sc cl (I + 2) C.env)) (RR (.ref (I + 1)) (I + 2)) { s with heap := h₁, toks := s.toks + 0 } := by
    refine loop_rule (LoopInv (childCx C s.heap xs caps gl sc cl (I + 2) (I + 1)) (capLoc σ.loc xs.length caps) I St ad σ.objs.length (compTurnW C.gval σ.loc elt o caps gl ifs) items Qf s) ?_ items.length ?_
    · rintro k s' ⟨i, h, tk, m', ad', news', objs, ⟨rfl, hi⟩, ⟨rfl, T⟩, R', hnI, hsti, pre, hat, ⟨oD, its, hmD, hLD, hlD⟩, q'⟩
      by_cases hlast : i = items.length
      · subst hlast
        refine it.W.done _ _ _ hsti fun h' tk' hk => ?_
        obtain ⟨F', N'⟩ := keep_it R'.F R'.N (fresh _ (Nat.le_refl _)) n1 hnI hk
        simp only [List.drop_length, compL] at q'
        refine hRR (I + 1) (I + 2) h' tk' m' ad' news' objs rfl rfl ⟨⟨F', N', ?_⟩, pre, hat, _, _, hmD, hLD⟩ q'
        exact ⟨fun n v h => (by cases h), R'.M.len, R'.M.obj, R'.M.own, R'.M.inj, R'.M.fzin, R'.M.cells⟩
      · have hlt : i < items.length := by (first | lia | omega)
        refine withT (C := C) T (it.W.item i _ _ _ hlt hsti fun v h' tk' hP hst' hk T' => ?_)
        obtain ⟨F', N'⟩ := keep_it R'.F R'.N (fresh _ (Nat.le_refl _)) n1 hnI hk
        have pI := it.plain _ _ hst'
        obtain ⟨oI, eI, hngI⟩ := it_bad pI
        have R1 : Rel (childCx C s.heap xs caps gl sc cl (I + 2) (I + 1)) ⟨capLoc σ.loc xs.length caps, objs, []⟩ h' m' ad' ((I, oI) :: news') :=
          ⟨F', fun p hp => by
            rcases List.mem_cons.mp hp with rfl | hp
            · exact ⟨eI, n1, fresh _ (Nat.le_refl _)⟩
            · exact N' p hp, R'.M.mono fun _ h => .tail _ h⟩
        obtain ⟨u, hu, rvu⟩ := it.item i v hP hlt
        have rvu' : RV s.heap C.fa ad' ((I, oI) :: news') u v := (down_RV R (led := (I, oI) :: news') rvu).le (fz := []) (.all pre fun _ h => h)
        have hdrop : items.drop i = u :: items.drop (i + 1) := by
          have := List.getElem?_eq_some_iff.mp hu
          obtain ⟨h1, h2⟩ := this
          rw [List.drop_eq_getElem_cons h1, h2]
        rw [hdrop] at q'
        simp only [compL] at q'
        refine letOwned pI ?_
        have hkeys : ∀ (i : Nat) (x : Str), xs[i]? = some x → (childKeys C.K xs caps gl).names[i]? = some x := fun i x h => by
          show (xs ++ _)[i]? = some x
          rw [List.getElem?_append_left (List.getElem?_eq_some_iff.mp h).1]
          exact h
        exact comp_turn (s := s) (n := σ.objs.length) (i := i) (D := I + 1) (Nx := fun x => compL (compTurnW C.gval σ.loc elt o caps gl ifs) σ.objs.length (items.drop (i + 1)) x Qf) (Post := fun s₅ => ∃ m, m < items.length - i ∧ LoopInv (childCx C s.heap xs caps gl sc cl (I + 2) (I + 1)) (capLoc σ.loc xs.length caps) I St ad σ.objs.length (compTurnW C.gval σ.loc elt o caps gl ifs) items Qf s m s₅) (t := tgtOf o) (u := u) (σ := ⟨capLoc σ.loc xs.length caps, objs, []⟩) okc rfl (h2 _ okc rfl) (h3 _ okc rfl) (tgt_match hx _ hkeys) (by
          intro n hn x hxn hxc
          have hlt := tgt_ids hx n hn
          exfalso
          have e1 := hkeys n _ (List.getElem?_eq_getElem hlt)
          have hxn : (childKeys C.K xs caps gl).names[n]? = some x := hxn
          rw [e1] at hxn
          have := List.getElem_mem hlt
          rw [Option.some.inj hxn] at this
          exact nodup_append_not S.nodup this hxc) (bind_child (ℓ := σ.loc) (caps := caps) (objs := objs) (u := u) hx q') T' R1 rvu' (.head _) hngI (.tail _ hmD) hLD hlD (by (first | lia | omega)) hat (.head _) (by exact Nat.ne_of_lt (Nat.lt_succ_self I)) fun σx hx' tkx mx adx newsx => comp_back ok R S hc1 hc2 it hlt hst' eI hngI F'.keep pre hat
    · refine ⟨0, h₁, s.toks + 0, _, ad ++ [I + 1], [(I + 1, lstObj [] 0)], σ.objs ++ [[]], ⟨rfl, Nat.zero_le _⟩, ⟨rfl, T0⟩, ⟨F0, N0, ?_⟩, ?_, st0, snoc_pre, ?_, ⟨_, [], .head _, ⟨0, rfl⟩, Nat.le_refl _⟩, q⟩
      · exact child_rel ok R S hc1 hc2 snoc_pre M0 fun _ _ h _ => h
      · intro p hp
        rw [List.mem_singleton.mp hp]
        exact Nat.succ_ne_self I
      · rw [← hlen, List.getElem?_concat_length]
  exact codeAny_compStart_list loop (it.W.self 0 _ _ _ st0 loop)
end
end Mine
namespace Mine
open PySem PySem.W PySem.Calls PyProof.Rows PyProof.V PySem.Spec

section
variable {C : Cx}
theorem SoundE.seq {p : PE} {e : Expr} (hs : SoundE C p e) {σ : St} {Q : AV → St → Prop} {s : Shared} {m : Str → Option Value} {ad : List Addr} {news : Led} {P : Value → Shared → Prop}
    (T : 0 < s.toks) (q : wpE C.gval C.fns p σ Q) (R : Rel C σ s.heap m ad news)
    (h : ∀ cv s₁ v σ₁ m₁ ad₁ news₁, Q v σ₁ → RV C.base C.fa ad₁ news₁ v cv → Rel C σ₁ s₁.heap m₁ ad₁ news₁ → Le C.fz ad news ad₁ news₁ → Rest s s₁ → 0 < s₁.toks → P cv s₁) :
    Wp C (eval e C.env) P s :=
  wpAny_mono (wpAny_toks (hs σ Q s m ad news T q R)) (fun cv s₁ hp => by
    obtain ⟨ht, v, σ₁, m₁, ad₁, news₁, q₁, rv, R₁, l, r⟩ := hp
    exact h cv s₁ v σ₁ m₁ ad₁ news₁ q₁ rv R₁ l r (Nat.lt_of_lt_of_le T ht)) fun _ _ x => x.2
theorem SoundEs.seq {p : PEs} {es : List Expr} (hs : SoundEs C p es) {σ : St} {Q : List AV → St → Prop} {s : Shared} {m : Str → Option Value} {ad : List Addr} {news : Led} {pos : Pos} {P : List Value → Shared → Prop}
    (T : 0 < s.toks) (q : wpEs C.gval C.fns p σ Q) (R : Rel C σ s.heap m ad news)
    (h : ∀ cv s₁ v σ₁ m₁ ad₁ news₁, Q v σ₁ → RVs C.base C.fa ad₁ news₁ v cv → Rel C σ₁ s₁.heap m₁ ad₁ news₁ → Le C.fz ad news ad₁ news₁ → Rest s s₁ → 0 < s₁.toks → P cv s₁) :
    Wp C (spliced (backTo pos (starEach es C.env))) P s :=
  wpAny_mono (wpAny_toks (hs σ Q s m ad news pos T q R)) (fun cv s₁ hp => by
    obtain ⟨ht, v, σ₁, m₁, ad₁, news₁, q₁, rv, R₁, l, r⟩ := hp
    exact h cv s₁ v σ₁ m₁ ad₁ news₁ q₁ rv R₁ l r (Nat.lt_of_lt_of_le T ht)) fun _ _ x => x.2
theorem SoundT.seq {p : PE} {e : Expr} (hs : SoundT C p e) {σ : St} {Q : AV → St → Prop} {s : Shared} {m : Str → Option Value} {ad : List Addr} {news : Led} {P : Bool → Shared → Prop}
    (T : 0 < s.toks) (q : wpE C.gval C.fns p σ Q) (hq : ∀ v σ', Q v σ' → ∃ b, truth σ' v = some b) (R : Rel C σ s.heap m ad news)
    (h : ∀ b s₁ v σ₁ m₁ ad₁ news₁, truth σ₁ v = some b → Q v σ₁ → Rel C σ₁ s₁.heap m₁ ad₁ news₁ → Le C.fz ad news ad₁ news₁ → Rest s s₁ → 0 < s₁.toks → P b s₁) :
    Wp C (isTrue e C.env (eval e C.env)) P s :=
  wpAny_mono (wpAny_toks (hs σ Q s m ad news T q hq R)) (fun cv s₁ hp => by
    obtain ⟨ht, v, σ₁, m₁, ad₁, news₁, t, q₁, R₁, l, r⟩ := hp
    exact h cv s₁ v σ₁ m₁ ad₁ news₁ t q₁ R₁ l r (Nat.lt_of_lt_of_le T ht)) fun _ _ x => x.2

theorem postV_up {t : Sem Value} {Q : AV → St → Prop} {s₀ s : Shared} {ad₀ ad : List Addr} {news₀ news : Led} (k : Le C.fz ad₀ news₀ ad news) (r : Rest s₀ s) (h : Wp C t (PostV C Q s ad news) s) : Wp C t (PostV C Q s₀ ad₀ news₀) s :=
  wpAny_mono h (fun _ _ x => x.up k r) fun _ _ x => x

theorem sConst {v : AV} {c : Const} {k : Nat} {pos : Pos} (h : mC v c = true) : SoundE C (.const v) (.Constant c k pos) := by
  intro σ Q s m ad news T q R
  have q : Q v σ := q
  cases v <;> first | exact (Bool.false_ne_true h).elim | skip
  · cases c <;> first | exact (Bool.false_ne_true h).elim | exact wpAny_Constant_none (PostV.same R q .none)
  · cases c <;> first | exact (Bool.false_ne_true h).elim | (cases eq_of_beq h; exact wpAny_Constant_bool (PostV.same R q (.bool _)))
  · cases c <;> first | exact (Bool.false_ne_true h).elim | (cases eq_of_beq h; exact wpAny_Constant_int (PostV.here R q (.int _ _)))
  · cases c <;> first | exact (Bool.false_ne_true h).elim | (cases eq_of_beq h; exact wpAny_Constant_float (PostV.here R q (.float _ _ (Nat.ne_of_gt T))))
  · cases c <;> first | exact (Bool.false_ne_true h).elim | (cases eq_of_beq h; exact wpAny_Constant_str (PostV.here R q (.str _ _)))

theorem load_sound (ok : CxOK C) {σ : St} {s : Shared} {m : Str → Option Value} {ad : List Addr} {news : Led} {x : Str} {cv : Value} {Q : Value → Shared → Prop} (hx : x ∈ C.K.names) (R : Rel C σ s.heap m ad news) (hv : VarAt C m news x cv) (q : Q cv s) :
    Wp C (loadName C.env x) Q s := by
  obtain ⟨hd, hl, hc⟩ := ok.locs x hx
  unfold VarAt at hv
  by_cases hx' : x ∈ C.K.cells
  · rw [if_pos hx'] at hv
    obtain ⟨c, o, h1, h2, h3⟩ := hv
    exact wpAny_loadName_cell ok.kind (hc hx') h1 ⟨o, h2.get R, h3⟩ q
  · rw [if_neg hx'] at hv
    exact wpAny_loadName_local ok.kind (hl hx') R.F.ns hv q

theorem sLoc (ok : CxOK C) {n : Nat} {x : Str} {pos : Pos} (h : C.K.names[n]? = some x) : SoundE C (.loc n) (.Name x pos) := by
  intro σ Q s m ad news T q R
  obtain ⟨v, hv, q⟩ := q
  obtain ⟨x', cv, h1, h2, h3⟩ := R.M.loc n v hv
  rw [h] at h1
  cases h1
  have hx := List.mem_of_getElem? h
  exact wpAny_Name (load_sound ok hx R h2 (PostV.same R q h3)) (ok.locs x hx).1

theorem sGlob (ok : CxOK C) {n : Nat} {x : Str} {pos : Pos} (h : C.K.globs[n]? = some x) (hf : x ∉ C.K.far) : SoundE C (.glob n) (.Name x pos) := by
  intro σ Q s m ad news T q R
  obtain ⟨v, hv, q⟩ := q
  obtain ⟨⟨hd, hk⟩, cv, hg, hm⟩ := ok.globs n x v h hv
  replace hk := hk hf
  have rv : RV C.base C.fa ad news v cv := by
    cases v <;> cases cv <;> first | (exact hg.elim) | skip
    · cases hg; exact .typ _
    · cases hg; exact .bi _
    · obtain ⟨rfl, o, fd, h1, h2⟩ := hg
      exact .fn _ o fd h1 h2
  have g : s.heap.Ns C.env.globals C.mg := by rw [ok.eg]; exact ok.g.keeps R.F.keep
  have b : s.heap.Ns C.env.builtins C.mb := by rw [ok.eb]; exact ok.b.keeps R.F.keep
  refine Calls.Name_function_global ok.kind hk ?_ hd
  rcases hm with hm | ⟨h1, h2⟩
  · exact Calls.loadGlobal_global g hm (PostV.same R q rv)
  · exact Calls.loadGlobal_builtin g h1 b h2 (PostV.same R q rv)

theorem sBin (ok : CxOK C) {op : Operator} {l r : PE} {l' r' : Expr} {pos : Pos} (h1 : SoundE C l l') (h2 : SoundE C r r') : SoundE C (.bin op l r) (.BinOp l' op r' pos) := by
  intro σ Q s m ad news T q R
  refine wpAny_BinOp (h1.seq T q R fun ca s₁ a σ₁ m₁ ad₁ news₁ q₁ ra R₁ l₁ r₁ T₁ => h2.seq T₁ q₁ R₁ fun cb s₂ b σ₂ m₂ ad₂ news₂ q₂ rb R₂ l₂ r₂ T₂ => ?_)
  exact postV_up (l₁.trans l₂) (r₁.trans r₂) (binL_sound T₂ R₂ (ra.le l₂) rb ok q₂)

theorem sNeg (ok : CxOK C) {p : PE} {e : Expr} {pos : Pos} (h1 : SoundE C p e) : SoundE C (.neg p) (.UnaryOp .USub e pos) := by
  intro σ Q s m ad news T q R
  refine UnaryOp_ (h1.seq T q R fun ca s₁ a σ₁ m₁ ad₁ news₁ q₁ ra R₁ l₁ r₁ T₁ => ?_)
  obtain ⟨i, rfl, q₁⟩ := q₁
  cases ra
  exact postV_up l₁ r₁ (PyProof.Rows.neg_int (PostV.here R₁ q₁ (.int _ _)))

theorem sNot (ok : CxOK C) {p : PE} {e : Expr} {pos : Pos} (h1 : SoundE C p e) (h2 : SoundT C p e) : SoundE C (.not p) (.UnaryOp .Not e pos) ∧ SoundT C (.not p) (.UnaryOp .Not e pos) := by
  constructor
  · intro σ Q s m ad news T q R
    refine UnaryOp_ (h1.seq T q R fun ca s₁ a σ₁ m₁ ad₁ news₁ q₁ ra R₁ l₁ r₁ T₁ => ?_)
    obtain ⟨b, hb, q₁⟩ := truthW_iff.mp q₁
    refine not_of (wpAny_mono (truth_sound R₁ ra hb) (fun c s₂ hc => ?_) fun _ _ x => x)
    obtain ⟨⟨tk, rfl⟩, rfl⟩ := hc
    exact (PostV.here R₁ q₁ (.bool _)).up l₁ r₁
  · intro σ Q s m ad news T q hq R
    refine isTrue_not (h2.seq T q (fun v σ' h => by obtain ⟨b, hb, _⟩ := truthW_iff.mp h; exact ⟨b, hb⟩) R fun b s₁ v σ₁ m₁ ad₁ news₁ ht q₁ R₁ l₁ r₁ T₁ => ?_)
    obtain ⟨b', hb, q₁⟩ := truthW_iff.mp q₁
    rw [ht] at hb
    cases hb
    exact ⟨_, σ₁, m₁, ad₁, news₁, rfl, q₁, R₁, l₁, r₁⟩

theorem sCmp (ok : CxOK C) {op : CmpOp} {l r : PE} {l' r' : Expr} {pos : Pos} (hm : behindInMarks op r' = false) (h1 : SoundE C l l') (h2 : SoundE C r r') :
    SoundE C (.cmp op l r) (.Compare l' [op] [r'] pos) ∧ SoundT C (.cmp op l r) (.Compare l' [op] [r'] pos) := by
  constructor
  · intro σ Q s m ad news T q R
    refine wpAny_Compare1 (h1.seq T q R fun ca s₁ a σ₁ m₁ ad₁ news₁ q₁ ra R₁ l₁ r₁ T₁ => h2.seq T₁ q₁ R₁ fun cb s₂ b σ₂ m₂ ad₂ news₂ q₂ rb R₂ l₂ r₂ T₂ => ?_) hm
    refine wpAny_mono (cmpL_sound R₂ (ra.le l₂) rb ok q₂) (fun cv s₃ h3 => ?_) fun _ _ x => x
    obtain ⟨c, rfl, rfl, q₃⟩ := h3
    exact (PostV.same R₂ q₃ (.bool _)).up (l₁.trans l₂) (r₁.trans r₂)
  · intro σ Q s m ad news T q hq R
    refine wpAny_isTrue_Compare1 (h1.seq T q R fun ca s₁ a σ₁ m₁ ad₁ news₁ q₁ ra R₁ l₁ r₁ T₁ => h2.seq T₁ q₁ R₁ fun cb s₂ b σ₂ m₂ ad₂ news₂ q₂ rb R₂ l₂ r₂ T₂ => ?_) hm
    refine wpAny_mono (cmpL_sound R₂ (ra.le l₂) rb ok q₂) (fun cv s₃ h3 => ?_) fun _ _ x => x
    obtain ⟨c, rfl, rfl, q₃⟩ := h3
    exact wpAny_truthy_bool ⟨_, σ₂, m₂, ad₂, news₂, rfl, q₃, R₂, l₁.trans l₂, r₁.trans r₂⟩

theorem sIte (ok : CxOK C) {c a b : PE} {c' a' b' : Expr} {pos : Pos} (h1 : SoundT C c c') (h2 : SoundE C a a') (h3 : SoundE C b b') (h4 : SoundT C a a') (h5 : SoundT C b b') :
    SoundE C (.ite c a b) (.IfExp c' a' b' pos) ∧ SoundT C (.ite c a b) (.IfExp c' a' b' pos) := by
  have side : ∀ {Q : AV → St → Prop} (v : AV) (σ' : St), (truthW v σ' fun t => (t = true → wpE C.gval C.fns a σ' Q) ∧ (t = false → wpE C.gval C.fns b σ' Q)) → ∃ b, truth σ' v = some b :=
    fun v σ' h => by obtain ⟨b, hb, _⟩ := truthW_iff.mp h; exact ⟨b, hb⟩
  constructor
  · intro σ Q s m ad news T q R
    refine IfExp_ (h1.seq T q side R fun t s₁ v σ₁ m₁ ad₁ news₁ ht q₁ R₁ l₁ r₁ T₁ => ?_)
    obtain ⟨t', hb, q₁⟩ := truthW_iff.mp q₁
    rw [ht] at hb
    cases hb
    cases t
    · exact postV_up l₁ r₁ (h3 _ _ _ _ _ _ T₁ (q₁.2 rfl) R₁)
    · exact postV_up l₁ r₁ (h2 _ _ _ _ _ _ T₁ (q₁.1 rfl) R₁)
  · intro σ Q s m ad news T q hq R
    refine isTrue_IfExp (h1.seq T q side R fun t s₁ v σ₁ m₁ ad₁ news₁ ht q₁ R₁ l₁ r₁ T₁ => ?_)
    obtain ⟨t', hb, q₁⟩ := truthW_iff.mp q₁
    rw [ht] at hb
    cases hb
    cases t
    · exact wpAny_mono (h5 _ _ _ _ _ _ T₁ (q₁.2 rfl) hq R₁) (fun _ _ x => x.up l₁ r₁) fun _ _ x => x
    · exact wpAny_mono (h4 _ _ _ _ _ _ T₁ (q₁.1 rfl) hq R₁) (fun _ _ x => x.up l₁ r₁) fun _ _ x => x

theorem sTuple (ok : CxOK C) {ps : PEs} {es : List Expr} {k : Nat} {pos : Pos} (h1 : SoundEs C ps es) : SoundE C (.tuple ps) (.Tuple es k pos) := by
  intro σ Q s m ad news T q R
  refine Tuple_ (h1.seq T q R fun cs s₁ vs σ₁ m₁ ad₁ news₁ q₁ rs R₁ l₁ r₁ T₁ => ?_)
  refine newTuple_N R₁.F R₁.N (fun h' F' N' => ?_) (by rw [← rs.length]; exact q₁.1)
  exact ⟨_, σ₁, m₁, ad₁, _, q₁.2, .tup _ cs _ 0 (.inl (.head _)) (rs.le (Le.cons (fz := []))), R₁.more F' N', l₁.trans Le.cons, r₁.trans Rest.heap⟩

theorem sList (ok : CxOK C) {ps : PEs} {es : List Expr} {pos : Pos} (h1 : SoundEs C ps es) : SoundE C (.list ps) (.List es pos) := by
  intro σ Q s m ad news T q R
  refine List_ (h1.seq T q R fun cs s₁ vs σ₁ m₁ ad₁ news₁ q₁ rs R₁ l₁ r₁ T₁ => ?_)
  obtain ⟨hz, n, rfl, q₁⟩ := q₁
  refine newList_N R₁.F R₁.N (fun h' F' N' => ?_) (by rw [← rs.length]; exact hz)
  refine ⟨_, _, m₁, ad₁ ++ [s₁.heap.objs.size], _, q₁, .lst _ _ ?_, R₁.alloc F' N' (Nat.le_refl _) rs, l₁.trans Le.snoc, r₁.trans Rest.heap⟩
  rw [← R₁.M.len, List.getElem?_concat_length]

theorem sSub (ok : CxOK C) {p i : PE} {e i' : Expr} {pos : Pos} (hp : (match i' with | .Slice .. => false | _ => true) = true) (h1 : SoundE C p e) (h2 : SoundE C i i') : SoundE C (.sub p i) (.Subscript e i' pos) := by
  intro σ Q s m ad news T q R
  refine Subscript_ (h1.seq T q R fun ca s₁ a σ₁ m₁ ad₁ news₁ q₁ ra R₁ l₁ r₁ T₁ => h2.seq T₁ q₁ R₁ fun cb s₂ b σ₂ m₂ ad₂ news₂ q₂ rb R₂ l₂ r₂ T₂ => ?_)
  exact postV_up (l₁.trans l₂) (r₁.trans r₂) (sub_sound R₂ (ra.le l₂) rb hp q₂)

theorem sSlTo (ok : CxOK C) {p hi : PE} {e hi' : Expr} {p₁ pos : Pos} (h1 : SoundE C p e) (h2 : SoundE C hi hi') : SoundE C (.slTo p hi) (.Subscript e (.Slice none (some hi') none p₁) pos) := by
  intro σ Q s m ad news T q R
  refine Subscript_ (h1.seq T q R fun ca s₁ a σ₁ m₁ ad₁ news₁ q₁ ra R₁ l₁ r₁ T₁ => wpAny_Slice (evalPart_none_step (evalPart_some_step (h2.seq T₁ q₁ R₁ fun cb s₂ b σ₂ m₂ ad₂ news₂ q₂ rb R₂ l₂ r₂ T₂ => evalPart_none_step ?_))))
  obtain ⟨k, rfl, q₂⟩ := q₂
  cases rb
  exact wpAny_mono (slice_sound (value := none) R₂ (ra.le l₂) .none (.int _ _) q₂) (fun _ _ x => x.up (l₁.trans l₂) (r₁.trans r₂)) fun _ _ x => x
theorem sSlFrom (ok : CxOK C) {p lo : PE} {e lo' : Expr} {p₁ pos : Pos} (h1 : SoundE C p e) (h2 : SoundE C lo lo') : SoundE C (.slFrom p lo) (.Subscript e (.Slice (some lo') none none p₁) pos) := by
  intro σ Q s m ad news T q R
  refine Subscript_ (h1.seq T q R fun ca s₁ a σ₁ m₁ ad₁ news₁ q₁ ra R₁ l₁ r₁ T₁ => wpAny_Slice (evalPart_some_step (h2.seq T₁ q₁ R₁ fun cb s₂ b σ₂ m₂ ad₂ news₂ q₂ rb R₂ l₂ r₂ T₂ => evalPart_none_step (evalPart_none_step ?_))))
  obtain ⟨k, rfl, q₂⟩ := q₂
  cases rb
  exact wpAny_mono (slice_sound (value := none) R₂ (ra.le l₂) (.int _ _) .none q₂) (fun _ _ x => x.up (l₁.trans l₂) (r₁.trans r₂)) fun _ _ x => x
theorem sEsNil (ok : CxOK C) : SoundEs C .nil [] := by
  intro σ Q s m ad news pos T q R
  exact spliced_none ⟨[], σ, m, ad, news, q, .nil, R, Le.refl, Rest.refl⟩
theorem sEsCons (ok : CxOK C) {p : PE} {e : Expr} {ps : PEs} {es : List Expr} (hn : (match e with | .Starred .. => false | _ => true) = true) (h1 : SoundE C p e) (h2 : SoundEs C ps es) : SoundEs C (.cons p ps) (e :: es) := by
  intro σ Q s m ad news pos T q R
  have he : starEach (e :: es) C.env = (false, eval e C.env) :: starEach es C.env := by cases e <;> first | rfl | cases hn
  refine spliced_more (h1.seq T q R fun ca s₁ a σ₁ m₁ ad₁ news₁ q₁ ra R₁ l₁ r₁ T₁ => h2.seq T₁ q₁ R₁ fun cs s₂ vs σ₂ m₂ ad₂ news₂ q₂ rs R₂ l₂ r₂ T₂ => ?_) he
  exact ⟨_, σ₂, m₂, ad₂, news₂, q₂, .cons _ _ _ _ (ra.le l₂) rs, R₂, l₁.trans l₂, r₁.trans r₂⟩

theorem and2' {a b : Bool} (h : (a && b) = true) : a = true ∧ b = true := by cases a <;> cases b <;> first | exact ⟨rfl, rfl⟩ | cases h
theorem plain_any (env : Env) (pos : Pos) : ∀ {ps : PEs} {es : List Expr} (K : Keys), mEs K ps es = true → (backTo pos (starEach es env)).any (·.1) = false
  | .nil, [], _, _ => rfl
  | .nil, _ :: _, _, h => by cases h
  | .cons _ _, [], _, h => by cases h
  | .cons p ps, e :: es, K, h => by
    replace h : notStar e = true ∧ mE K p e = true ∧ mEs K ps es = true := ⟨(and2' h).1, and2' (and2' h).2⟩
    have he : starEach (e :: es) env = (false, eval e env) :: starEach es env := by cases e <;> first | rfl | cases h.1
    rw [he]
    show (false || (backTo pos (starEach es env)).any (·.1)) = false
    rw [plain_any env pos K h.2.2]
    rfl

theorem sCall (ok : CxOK C) {f : PE} {ps : PEs} {x : Str} {np pos : Pos} {e : Expr} {es : List Expr} (h1 : SoundE C f (.Name x np)) (h2 : SoundEs C ps (e :: es)) (hm : mEs C.K ps (e :: es) = true) : SoundE C (.call f ps) (.Call (.Name x np) (e :: es) [] pos) := by
  intro σ Q s m ad news T q R
  refine Call_ (h1.seq T q R fun cf s₁ fv σ₁ m₁ ad₁ news₁ q₁ rf R₁ l₁ r₁ T₁ => ?_)
  obtain ⟨hc, q₁⟩ := q₁
  have he : starEach (e :: es) C.env = (false, eval e C.env) :: starEach es C.env ∧ (backTo pos (starEach es C.env)).any (·.1) = false := by
    cases ps with
    | nil => cases hm
    | cons p ps =>
      replace hm : notStar e = true ∧ mE C.K p e = true ∧ mEs C.K ps es = true := ⟨(and2' hm).1, and2' (and2' hm).2⟩
      refine ⟨?_, plain_any C.env pos C.K hm.2.2⟩
      cases e <;> first | rfl | cases hm.1
  have args : Wp C (spliced (backTo pos (starEach (e :: es) C.env))) (fun vs s₂ => (∀ b o, C.base.get? b = some o → s₂.heap.get? b = some o) ∧ Wp C (call cf vs) (PostV C Q s ad news) s₂) s₁ :=
    h2.seq T₁ q₁ R₁ fun cs s₂ vs σ₂ m₂ ad₂ news₂ q₂ rs R₂ l₂ r₂ T₂ => ⟨R₂.F.keep, postV_up (l₁.trans l₂) (r₁.trans r₂) (call_sound T₂ R₂ (rf.le l₂) rs ok q₂)⟩
  cases rf with
  | bi b => exact PyProof.Rows.callWith_builtin1 (wpAny_mono args (fun _ _ x => x.2) fun _ _ x => x) he.1 he.2
  | typ t => exact PyProof.Rows.callWith_type1 (wpAny_mono args (fun _ _ x => x.2) fun _ _ x => x) he.1 he.2
  | fn k o fd ho hd => exact callWith_def hd (wpAny_mono args (fun _ _ x => ⟨x.1 _ _ (ok.htop _ _ ho), x.2⟩) fun _ _ x => x) he.1
  | _ => cases hc

theorem sComp (ok : CxOK C) {elt iter : PE} {o : Option Nat} {caps gl : List Nat} {ifs : PEs} {elt' tgt iter' : Expr} {ifs' : List Expr} {sc : Scope} {pos : Pos} {xs : List Str} (hset : notSet iter' = true)
    (hx : tgtNames o tgt = some xs) (hsc : scopeOk C.K xs caps gl sc = true) (h1 : SoundE C iter iter')
    (h2 : ∀ C', CxOK C' → C'.K = childKeys C.K xs caps gl → SoundE C' elt elt') (h3 : ∀ C', CxOK C' → C'.K = childKeys C.K xs caps gl → SoundTs C' ifs ifs') :
    SoundE C (.comp elt o caps gl iter ifs) (.ListComp elt' [⟨tgt, iter', ifs', 0⟩] sc pos) := by
  intro σ Q s m ad news T q R
  have S := scope_ok hsc
  obtain ⟨cl, e1, hc1, hc2⟩ := clos C.env sc (fun y hy hf => by
    obtain ⟨i, hi, e⟩ := S.free y hy hf
    rw [← e]
    exact ok.cellat _ (S.cp i hi).1.2)
  have hs : ∀ v, foldedSetIterable iter' C.env v = pure v := by intro v; cases iter' <;> first | rfl | cases hset
  show Wp C (comprehension (.ListComp elt' [⟨tgt, iter', ifs', 0⟩] sc pos) sc C.env (firstIterPos [⟨tgt, iter', ifs', 0⟩] pos) (newList []) false (eval iter' C.env)) _ s
  refine (wpAny_comprehension_free (use := none) (g := ⟨tgt, iter', ifs', 0⟩) (gs := []) rfl hs e1 S.kind S.names (h1.seq T q R fun cv s₁ v σ₁ m₁ ad₁ news₁ q₁ rv R₁ l₁ r₁ T₁ => ?_))
  refine iter_sound ok q₁ R₁ rv fun items io fp fs P St hk it hf hst hfp => ?_
  obtain ⟨hsz, n, rfl, qc⟩ := hk
  refine comp_block (RR := compPost (model C.prog C.w) C.A NoE none (PostV C Q s ad news)) ok S hx hc1 hc2 h2 h3 T₁ R₁ it hst hfp hsz qc ?_
  rintro D L h tk m' ad' news' objs hD hL ⟨Rc, pre, hat, oD, its, hmD, hLD⟩ qf
  refine ⟨m', Rc.F.ns, fun h' hs' => ?_⟩
  have keep : ∀ b o, s₁.heap.get? b = some o → h'.get? b = some o := fun b o e => (hs'.2 b (Nat.ne_of_lt (Nat.lt_of_lt_of_le (Heap.lt_size e) Rc.F.above))).trans (Rc.F.keep b o e)
  have N' : News s₁.heap L h' news' := fun p hp => ⟨(hs'.2 _ (Rc.N p hp).2.1).trans (Rc.N p hp).1, (Rc.N p hp).2⟩
  have R' := up_RelK (C' := childCx C s₁.heap xs caps gl sc cl L D) R₁ keep N' Rc.M rfl rfl pre
  refine ⟨.lst σ₁.objs.length, ⟨σ₁.loc, objs, σ₁.objs.length :: σ₁.own⟩, m₁, ad', _, qf, .lst _ D hat, ⟨R'.F, R'.N, ?_⟩, l₁.trans (up_Le R₁ pre), r₁.trans Rest.mk'⟩
  refine ⟨R'.M.loc, R'.M.len, R'.M.obj, fun i hi => ?_, R'.M.inj, R'.M.fzin, R'.M.cells⟩
  rcases List.mem_cons.mp hi with rfl | hi
  · refine ⟨D, oD, hat, ⟨List.mem_append_right _ hmD, its, hLD⟩, fun hf' => ?_⟩
    have := R₁.fz_lt hf'
    rw [hD] at this
    exact absurd this (Nat.not_lt.mpr (Nat.le_succ _))
  · exact R'.M.own i hi

theorem and2 {a b : Bool} (h : (a && b) = true) : a = true ∧ b = true := and2' h
theorem sBoth {C : Cx} {p : PE} {e : Expr} (hE : SoundE C p e) (h : ∀ whole, isTrue e C.env whole = (do let v ← whole; standAt e.pos; holding [v] (truthy v))) : SoundE C p e ∧ SoundT C p e := ⟨hE, testOf hE h⟩
noncomputable def Vconst (K : Keys) (e : Expr) (v : AV) : Prop := ∃ c k pos, e = .Constant c k pos ∧ mC v c = true
theorem inv_const {K : Keys} {e : Expr} {v : AV} (h : mE K (.const v) e = true) : Vconst K e v := by
  cases e <;> first | exact (Bool.false_ne_true h).elim | exact ⟨_, _, _, rfl, h⟩
noncomputable def Vloc (K : Keys) (e : Expr) (n : Nat) : Prop := ∃ x pos, e = .Name x pos ∧ (K.names[n]? == some x) = true
theorem inv_loc {K : Keys} {e : Expr} {n : Nat} (h : mE K (.loc n) e = true) : Vloc K e n := by
  cases e <;> first | exact (Bool.false_ne_true h).elim | exact ⟨_, _, rfl, h⟩
noncomputable def Vglob (K : Keys) (e : Expr) (n : Nat) : Prop := ∃ x pos, e = .Name x pos ∧ (K.globs[n]? == some x && !(K.far.contains x)) = true
theorem inv_glob {K : Keys} {e : Expr} {n : Nat} (h : mE K (.glob n) e = true) : Vglob K e n := by
  cases e <;> first | exact (Bool.false_ne_true h).elim | exact ⟨_, _, rfl, h⟩
noncomputable def Vbin (K : Keys) (e : Expr) (op : Operator) (l r : PE) : Prop := ∃ l' op' r' pos, e = .BinOp l' op' r' pos ∧ (op == op' && (mE K l l' && mE K r r')) = true
theorem inv_bin {K : Keys} {e : Expr} {op : Operator} {l r : PE} (h : mE K (.bin op l r) e = true) : Vbin K e op l r := by
  cases e <;> first | exact (Bool.false_ne_true h).elim | exact ⟨_, _, _, _, rfl, h⟩
noncomputable def Vneg (K : Keys) (e : Expr) (p : PE) : Prop := ∃ e' pos, e = .UnaryOp .USub e' pos ∧ mE K p e' = true
theorem inv_neg {K : Keys} {e : Expr} {p : PE} (h : mE K (.neg p) e = true) : Vneg K e p := by
  cases e <;> first | exact (Bool.false_ne_true h).elim | skip
  rename_i uop e' pos
  cases uop <;> first | exact (Bool.false_ne_true h).elim | exact ⟨_, _, rfl, h⟩
noncomputable def Vnot (K : Keys) (e : Expr) (p : PE) : Prop := ∃ e' pos, e = .UnaryOp .Not e' pos ∧ mE K p e' = true
theorem inv_not {K : Keys} {e : Expr} {p : PE} (h : mE K (.not p) e = true) : Vnot K e p := by
  cases e <;> first | exact (Bool.false_ne_true h).elim | skip
  rename_i uop e' pos
  cases uop <;> first | exact (Bool.false_ne_true h).elim | exact ⟨_, _, rfl, h⟩
noncomputable def Vcmp (K : Keys) (e : Expr) (op : CmpOp) (l r : PE) : Prop := ∃ l' op' r' pos, e = .Compare l' [op'] [r'] pos ∧ (op == op' && (behindInMarks op' r' == false && (mE K l l' && mE K r r'))) = true
theorem inv_cmp {K : Keys} {e : Expr} {op : CmpOp} {l r : PE} (h : mE K (.cmp op l r) e = true) : Vcmp K e op l r := by
  cases e <;> first | exact (Bool.false_ne_true h).elim | skip
  rename_i l' ops cs pos
  match ops, cs, h with
  | [op'], [r'], h => exact ⟨_, _, _, _, rfl, h⟩
noncomputable def Vbools (K : Keys) (e : Expr) (b : Bool) (es : PEs) : Prop := ∃ es' pos, e = .BoolOp (if b then .And else .Or) es' pos ∧ mEs K es es' = true
theorem inv_bools {K : Keys} {e : Expr} {b : Bool} {es : PEs} (h : mE K (.bools b es) e = true) : Vbools K e b es := by
  cases e <;> first | exact (Bool.false_ne_true h).elim | skip
  rename_i bop es' pos
  cases b <;> cases bop <;> first | exact ⟨_, _, rfl, h⟩ | exact (Bool.false_ne_true h).elim
noncomputable def Vite (K : Keys) (e : Expr) (c a b : PE) : Prop := ∃ c' a' b' pos, e = .IfExp c' a' b' pos ∧ (mE K c c' && (mE K a a' && mE K b b')) = true
theorem inv_ite {K : Keys} {e : Expr} {c a b : PE} (h : mE K (.ite c a b) e = true) : Vite K e c a b := by
  cases e <;> first | exact (Bool.false_ne_true h).elim | exact ⟨_, _, _, _, rfl, h⟩
noncomputable def Vcall (K : Keys) (e : Expr) (f : PE) (args : PEs) : Prop := ∃ x np e' args' pos, e = .Call (.Name x np) (e' :: args') [] pos ∧ (mE K f (.Name x np) && mEs K args (e' :: args')) = true
theorem inv_call {K : Keys} {e : Expr} {f : PE} {args : PEs} (h : mE K (.call f args) e = true) : Vcall K e f args := by
  cases e <;> first | exact (Bool.false_ne_true h).elim | skip
  rename_i f' es kws pos
  cases f' <;> first | exact (Bool.false_ne_true h).elim | skip
  cases es with
  | nil => exact (Bool.false_ne_true h).elim
  | cons e₁ es =>
    cases kws with
    | cons _ _ => exact (Bool.false_ne_true h).elim
    | nil => exact ⟨_, _, _, _, _, rfl, h⟩
noncomputable def Vsub (K : Keys) (e : Expr) (p i : PE) : Prop := ∃ e' i' pos, e = .Subscript e' i' pos ∧ (notSlice i' && (mE K p e' && mE K i i')) = true
theorem inv_sub {K : Keys} {e : Expr} {p i : PE} (h : mE K (.sub p i) e = true) : Vsub K e p i := by
  cases e <;> first | exact (Bool.false_ne_true h).elim | exact ⟨_, _, _, rfl, h⟩
noncomputable def VslTo (K : Keys) (e : Expr) (p hi : PE) : Prop := ∃ e' hi' p₁ pos, e = .Subscript e' (.Slice none (some hi') none p₁) pos ∧ (mE K p e' && mE K hi hi') = true
theorem inv_slTo {K : Keys} {e : Expr} {p hi : PE} (h : mE K (.slTo p hi) e = true) : VslTo K e p hi := by
  cases e <;> first | exact (Bool.false_ne_true h).elim | skip
  rename_i e' sl pos
  cases sl <;> first | exact (Bool.false_ne_true h).elim | skip
  rename_i lo' hi' st' p₁
  cases lo' <;> cases hi' <;> cases st' <;> first | exact (Bool.false_ne_true h).elim | exact ⟨_, _, _, _, rfl, h⟩
noncomputable def VslFrom (K : Keys) (e : Expr) (p lo : PE) : Prop := ∃ e' lo' p₁ pos, e = .Subscript e' (.Slice (some lo') none none p₁) pos ∧ (mE K p e' && mE K lo lo') = true
theorem inv_slFrom {K : Keys} {e : Expr} {p lo : PE} (h : mE K (.slFrom p lo) e = true) : VslFrom K e p lo := by
  cases e <;> first | exact (Bool.false_ne_true h).elim | skip
  rename_i e' sl pos
  cases sl <;> first | exact (Bool.false_ne_true h).elim | skip
  rename_i lo' hi' st' p₁
  cases lo' <;> cases hi' <;> cases st' <;> first | exact (Bool.false_ne_true h).elim | exact ⟨_, _, _, _, rfl, h⟩
noncomputable def Vtuple (K : Keys) (e : Expr) (es : PEs) : Prop := ∃ es' k pos, e = .Tuple es' k pos ∧ mEs K es es' = true
theorem inv_tuple {K : Keys} {e : Expr} {es : PEs} (h : mE K (.tuple es) e = true) : Vtuple K e es := by
  cases e <;> first | exact (Bool.false_ne_true h).elim | exact ⟨_, _, _, rfl, h⟩
noncomputable def Vlist (K : Keys) (e : Expr) (es : PEs) : Prop := ∃ es' pos, e = .List es' pos ∧ mEs K es es' = true
theorem inv_list {K : Keys} {e : Expr} {es : PEs} (h : mE K (.list es) e = true) : Vlist K e es := by
  cases e <;> first | exact (Bool.false_ne_true h).elim | exact ⟨_, _, rfl, h⟩
noncomputable def Vcomp (K : Keys) (e : Expr) (elt iter : PE) (o : Option Nat) (caps gl : List Nat) (ifs : PEs) : Prop := ∃ elt' tgt iter' ifs' sc pos xs, e = .ListComp elt' [⟨tgt, iter', ifs', 0⟩] sc pos ∧
    tgtNames o tgt = some xs ∧ notSet iter' = true ∧ scopeOk K xs caps gl sc = true ∧ ifs'.length ≤ 1 ∧ mE K iter iter' = true ∧ mE (childKeys K xs caps gl) elt elt' = true ∧ mEs (childKeys K xs caps gl) ifs ifs' = true
theorem inv_comp {K : Keys} {e : Expr} {elt iter : PE} {o : Option Nat} {caps gl : List Nat} {ifs : PEs} (h : mE K (.comp elt o caps gl iter ifs) e = true) : Vcomp K e elt iter o caps gl ifs := by
  cases e <;> first | exact (Bool.false_ne_true h).elim | skip
  rename_i elt' gens sc pos
  match gens, h with
  | [⟨tgt, iter', ifs', 0⟩], h =>
    obtain ⟨hset, h⟩ := and2 h
    obtain ⟨h1, h⟩ := and2 h
    unfold compKeys at h
    cases hx : tgtNames o tgt with
    | none => rw [hx] at h; cases h
    | some xs =>
      rw [hx] at h
      obtain ⟨ha, hb⟩ := and2 h
      obtain ⟨hc, hd⟩ := and2 ha
      obtain ⟨he, hf⟩ := and2 hb
      exact ⟨_, _, _, _, _, _, xs, rfl, hx, hset, hc, of_decide_eq_true hd, h1, he, hf⟩
mutual
theorem sound : ∀ (p : PE) (C : Cx) (ok : CxOK C) (e : Expr), mE C.K p e = true → SoundE C p e ∧ SoundT C p e
  | .const v, C, ok, e, h => by
    obtain ⟨c, k, pos, rfl, h⟩ := inv_const h
    exact sBoth (sConst h) fun _ => rfl
  | .loc n, C, ok, e, h => by
    obtain ⟨x, pos, rfl, h⟩ := inv_loc h
    exact sBoth (sLoc ok (eq_of_beq h)) fun _ => rfl
  | .glob n, C, ok, e, h => by
    obtain ⟨x, pos, rfl, h⟩ := inv_glob h
    obtain ⟨h1, h2⟩ := and2 h
    exact sBoth (sGlob ok (eq_of_beq h1) (by intro hm; rw [List.contains_iff_mem.mpr hm] at h2; cases h2)) fun _ => rfl
  | .bin op l r, C, ok, e, h => by
    obtain ⟨l', op', r', pos, rfl, h⟩ := inv_bin h
    obtain ⟨ho, h⟩ := and2 h
    obtain ⟨h1, h2⟩ := and2 h
    cases eq_of_beq ho
    exact sBoth (sBin ok (sound l C ok _ h1).1 (sound r C ok _ h2).1) fun _ => rfl
  | .neg p, C, ok, e, h => by
    obtain ⟨e', pos, rfl, h⟩ := inv_neg h
    exact sBoth (sNeg ok (sound p C ok _ h).1) fun _ => rfl
  | .not p, C, ok, e, h => by
    obtain ⟨e', pos, rfl, h⟩ := inv_not h
    exact sNot ok (sound p C ok _ h).1 (sound p C ok _ h).2
  | .cmp op l r, C, ok, e, h => by
    obtain ⟨l', op', r', pos, rfl, h⟩ := inv_cmp h
    obtain ⟨ho, h⟩ := and2 h
    obtain ⟨hm, h⟩ := and2 h
    obtain ⟨h1, h2⟩ := and2 h
    cases eq_of_beq ho
    exact sCmp ok (eq_of_beq hm) (sound l C ok _ h1).1 (sound r C ok _ h2).1
  | .bools isAnd es, C, ok, e, h => by
    obtain ⟨es', pos, rfl, hm⟩ := inv_bools h
    match es, es', hm with
    | .nil, [], _ => exact ⟨fun σ Q s m ad news _ q => q.elim, fun σ Q s m ad news _ q => q.elim⟩
    | .cons p ps, e₁ :: es₁, hm =>
      have h1 := sound p C ok e₁ (and2 (and2 hm).2).1
      have h2 := soundBr ps isAnd C ok es₁ (and2 (and2 hm).2).2
      exact ⟨fun σ Q s m ad news T q R => (h2 e₁ p pos σ Q s m ad news h1.1 h1.2 T q R).1, fun σ Q s m ad news T q hq R => (h2 e₁ p pos σ Q s m ad news h1.1 h1.2 T q R).2 hq _⟩
  | .ite c a b, C, ok, e, h => by
    obtain ⟨c', a', b', pos, rfl, h⟩ := inv_ite h
    obtain ⟨h1, h⟩ := and2 h
    obtain ⟨h2, h3⟩ := and2 h
    exact sIte ok (sound c C ok _ h1).2 (sound a C ok _ h2).1 (sound b C ok _ h3).1 (sound a C ok _ h2).2 (sound b C ok _ h3).2
  | .call f ps, C, ok, e, h => by
    obtain ⟨x, np, e', args', pos, rfl, h⟩ := inv_call h
    obtain ⟨h1, h2⟩ := and2 h
    exact sBoth (sCall ok (sound f C ok _ h1).1 (sounds ps C ok _ h2) h2) fun _ => rfl
  | .sub p i, C, ok, e, h => by
    obtain ⟨e', i', pos, rfl, h⟩ := inv_sub h
    obtain ⟨h1, h⟩ := and2 h
    obtain ⟨h2, h3⟩ := and2 h
    exact sBoth (sSub ok h1 (sound p C ok _ h2).1 (sound i C ok _ h3).1) fun _ => rfl
  | .slTo p hi, C, ok, e, h => by
    obtain ⟨e', hi', p₁, pos, rfl, h⟩ := inv_slTo h
    obtain ⟨h1, h2⟩ := and2 h
    exact sBoth (sSlTo ok (sound p C ok _ h1).1 (sound hi C ok _ h2).1) fun _ => rfl
  | .slFrom p lo, C, ok, e, h => by
    obtain ⟨e', lo', p₁, pos, rfl, h⟩ := inv_slFrom h
    obtain ⟨h1, h2⟩ := and2 h
    exact sBoth (sSlFrom ok (sound p C ok _ h1).1 (sound lo C ok _ h2).1) fun _ => rfl
  | .tuple es, C, ok, e, h => by
    obtain ⟨es', k, pos, rfl, h⟩ := inv_tuple h
    exact sBoth (sTuple ok (sounds es C ok _ h)) fun _ => rfl
  | .list es, C, ok, e, h => by
    obtain ⟨es', pos, rfl, h⟩ := inv_list h
    exact sBoth (sList ok (sounds es C ok _ h)) fun _ => rfl
  | .comp elt o caps gl iter ifs, C, ok, e, h => by
    obtain ⟨elt', tgt, iter', ifs', sc, pos, xs, rfl, hx, hset, hsc, hlen, hm1, hm2, hm3⟩ := inv_comp h
    exact sBoth (sComp ok (pos := pos) hset hx hsc (sound iter C ok _ hm1).1 (fun C' ok' hK => (sound elt C' ok' elt' (by rw [hK]; exact hm2)).1) (fun C' ok' hK => soundTs ifs C' ok' ifs' (by rw [hK]; exact hm3) hlen)) fun _ => rfl
theorem sounds : ∀ (ps : PEs) (C : Cx) (ok : CxOK C) (es : List Expr), mEs C.K ps es = true → SoundEs C ps es
  | .nil, C, ok, [], _ => sEsNil ok
  | .nil, _, _, _ :: _, h => by cases h
  | .cons _ _, _, _, [], h => by cases h
  | .cons p ps, C, ok, e :: es, h => by
    exact sEsCons ok (and2 h).1 (sound p C ok e (and2 (and2 h).2).1).1 (sounds ps C ok es (and2 (and2 h).2).2)
theorem soundTs : ∀ (ps : PEs) (C : Cx) (ok : CxOK C) (es : List Expr), mEs C.K ps es = true → es.length ≤ 1 → SoundTs C ps es
  | .nil, C, ok, [], _, _ => sTsNil
  | .nil, _, _, _ :: _, h, _ => by cases h
  | .cons _ _, _, _, [], h, _ => by cases h
  | .cons p .nil, C, ok, [e], h, _ => by
    exact sTsOne (sound p C ok e (and2 (and2 h).2).1).2
  | .cons p .nil, _, _, _ :: _ :: _, h, hl => by simp at hl
  | .cons p (.cons _ _), _, _, _ :: _ :: _, h, hl => by simp at hl
  | .cons p (.cons _ _), _, _, [_], h, hl => by cases (and2 (and2 h).2).2
theorem soundBr : ∀ (ps : PEs) (isAnd : Bool) (C : Cx) (ok : CxOK C) (es : List Expr), mEs C.K ps es = true → SoundBr C isAnd ps es
  | .nil, isAnd, C, ok, [], _ => brNil ok isAnd
  | .nil, _, _, _, _ :: _, h => by cases h
  | .cons _ _, _, _, _, [], h => by cases h
  | .cons p ps, isAnd, C, ok, e :: es, h => by
    have h2 := and2 (and2 h).2
    exact brCons ok isAnd (sound p C ok e h2.1).1 (sound p C ok e h2.1).2 (soundBr ps isAnd C ok es h2.2)
end
end
end Mine
namespace Mine
open PySem PySem.W PySem.Calls PyProof.Rows PyProof.V PySem.Spec

noncomputable def flowIs (C : Cx) (ad : List Addr) (news : Led) : Fl → Flow → Prop
  | .next, .next => True
  | .ret v, .ret cv => RV C.base C.fa ad news v cv
  | _, _ => False
noncomputable def PostS (C : Cx) (Q : Fl → St → Prop) (s : Shared) (ad : List Addr) (news : Led) (f : Flow) (s' : Shared) : Prop :=
  ∃ fl σ' m' ad' news', Q fl σ' ∧ flowIs C ad' news' fl f ∧ Rel C σ' s'.heap m' ad' news' ∧ Le C.fz ad news ad' news' ∧ Rest s s'
theorem PostS.up {C : Cx} {Q : Fl → St → Prop} {s₀ s : Shared} {ad₀ ad : List Addr} {news₀ news : Led} (k : Le C.fz ad₀ news₀ ad news) (r : Rest s₀ s) {f : Flow} {s' : Shared} (h : PostS C Q s ad news f s') : PostS C Q s₀ ad₀ news₀ f s' := by
  obtain ⟨v, σ', m', ad', news', q, rv, R, l, r'⟩ := h
  exact ⟨v, σ', m', ad', news', q, rv, R, k.trans l, r.trans r'⟩

noncomputable def SoundS (C : Cx) (p : PS) (st : Stmt) : Prop := ∀ (σ : St) (Q : Fl → St → Prop) (s : Shared) (m : Str → Option Value) (ad : List Addr) (news : Led),
  0 < s.toks → wpS C.gval C.fns p σ Q → Rel C σ s.heap m ad news → Wp C (exec st C.env) (PostS C Q s ad news) s
noncomputable def SoundSs (C : Cx) (p : PSs) (st : List Stmt) : Prop := ∀ (σ : St) (Q : Fl → St → Prop) (s : Shared) (m : Str → Option Value) (ad : List Addr) (news : Led),
  0 < s.toks → wpSs C.gval C.fns p σ Q → Rel C σ s.heap m ad news → Wp C (execs st C.env) (PostS C Q s ad news) s

section
variable {C : Cx}

theorem may (hoc : C.ownCells = true) (ns : List Nat) : mayStore C ns := fun _ _ _ _ _ => hoc

theorem sAssignN (ok : CxOK C) (hoc : C.ownCells = true) {n : Nat} {x : Str} {p : PE} {e : Expr} {p₁ pos : Pos} (hx : C.K.names[n]? = some x) (hc : rhsOk (.Name x p₁) e = true) (h1 : SoundE C p e) :
    SoundS C (.assign (.name n) p) (.Assign [.Name x p₁] e pos) := by
  intro σ Q s m ad news T q R
  have hs : swapsWith e (some (.Name x p₁)) pos.line C.env = pure false := by cases e <;> first | rfl | cases hc
  refine wpAny_Assign_Name (h1.seq T q R fun cv s₁ v σ₁ m₁ ad₁ news₁ q₁ rv R₁ l₁ r₁ T₁ => store_sound ok hx (fun _ => hoc) R₁ rv fun h' tk m' news' R' l' => ?_) hs
  exact ⟨.next, _, m', ad₁, news', q₁, trivial, R', l₁.trans l', r₁.trans Rest.mk'⟩

theorem Rel.other {σ : St} {h h' : Heap} {m : Str → Option Value} {ad : List Addr} {news : Led} {L : Addr} (R : Rel C σ h m ad news) (hs : Heap.SameBut L h h') (h1 : C.env.locals ≠ L) (h2 : C.base.get? L = none) (h3 : ∀ p ∈ news, p.1 ≠ L) : Rel C σ h' m ad news :=
  ⟨⟨R.F.ns.sameBut hs h1, fun b o e => (hs.2 b (by rintro rfl; rw [h2] at e; cases e)).trans (R.F.keep b o e), R.F.above⟩, fun p hp => ⟨(hs.2 _ (h3 p hp)).trans (R.N p hp).1, (R.N p hp).2⟩, R.M⟩
theorem sAssignT (ok : CxOK C) (hoc : C.ownCells = true) {ns : List Nat} {es : List Expr} {k : Nat} {p : PE} {e : Expr} {p₁ pos : Pos} (hm : mT C.K (.tup ns) (.Tuple es k p₁) = true)
    (hc : rhsOk (.Tuple es k p₁) e = true) (h1 : SoundE C p e) : SoundS C (.assign (.tup ns) p) (.Assign [.Tuple es k p₁] e pos) := by
  intro σ Q s m ad news T q R
  have hs : swapsWithSole [.Tuple es k p₁] e pos.line C.env = pure false := by cases e <;> rfl
  have hw : swappedStores [.Tuple es k p₁] e C.env = pure none := by cases e <;> first | rfl | exact swap_none hc
  refine Assign_Tuple (h1.seq T q R fun cv s₁ v σ₁ m₁ ad₁ news₁ q₁ rv R₁ l₁ r₁ T₁ => bind_sound ok hm (may hoc _) q₁ R₁ rv fun σ' h' tk m' news' q₂ R' l' => ?_) hs hw
  exact ⟨.next, _, m', ad₁, news', q₂, trivial, R', l₁.trans l', r₁.trans Rest.mk'⟩

theorem sSwap (ok : CxOK C) {ns : List Nat} {p : PE} {es vs : List Expr} {k k' : Nat} {p₁ p₂ pos : Pos} (hm : swapT C.K ns es vs = true) (h1 : SoundE C p (.Tuple vs k' p₂)) : SoundS C (.swap ns p) (.Assign [.Tuple es k p₁] (.Tuple vs k' p₂) pos) := by
  intro σ Q s m ad news T q R
  obtain ⟨hw, hns⟩ := swapped_of (k := k) (p := p₁) (k' := k') (p' := p₂) ok hm
  refine Assign_Tuple_swapped (h1.seq T q R fun cv s₁ v σ₁ m₁ ad₁ news₁ q₁ rv R₁ l₁ r₁ T₁ => ?_) rfl hw
  obtain ⟨l, rfl, hl, q₁⟩ := q₁
  cases rv with | tup _ items a n hd rvs =>
  have T1 : IsTup s₁.heap a items.toArray := ⟨_, hd.get R₁, rfl, _, rfl⟩
  have hsz : (ns.map fun n => C.K.names.getD n "").length = items.toArray.size := by rw [List.length_map, List.size_toArray, ← rvs.length, hl]
  rw [hsz]
  refine unpackItems_tuple ok.hh T1 fun h' he => ?_
  have hk : ∀ b o, s₁.heap.get? b = some o → h'.get? b = some o := fun b o e => he b o (Nat.ne_of_lt (Heap.lt_size e)) e
  rw [← List.map_reverse, show items.toArray.toList = items from rfl]
  refine inOrderN_sound ok ns.reverse l.reverse items.reverse σ₁ { s₁ with heap := h' } _ _ (fun n hn => hns n (List.mem_reverse.mp hn)) (by rw [List.length_reverse, List.length_reverse, hl]) rvs.reverse (R₁.heap (R₁.F.keeps hk) (R₁.N.grown hk)) fun h₂ tk₂ m₂ news₂ R₂ l₂ => ?_
  exact ⟨.next, _, m₂, ad₁, news₂, q₁, trivial, R₂, l₁.trans l₂, r₁.trans Rest.mk'⟩
theorem sAppend (ok : CxOK C) {p q : PE} {x : Str} {e : Expr} {p₁ apos pos pos' : Pos} (hl : (apos.endLine == pos.line) = true) (hn : notStar e = true) (h1 : SoundE C p (.Name x p₁)) (h2 : SoundE C q e) :
    SoundS C (.append p q) (.Expr (.Call (.Attribute (.Name x p₁) "append" apos) [e] [] pos) pos') := by
  intro σ Q s m ad news T qq R
  have he : backTo pos (starEach [e] C.env) = [(false, eval e C.env)] := by cases e <;> first | rfl | cases hn
  refine wpAny_Expr_any (wpAny_Call_append rfl (by rw [he]; rfl) hl he (h1.seq T qq R fun cv s₁ v σ₁ m₁ ad₁ news₁ q₁ rv R₁ l₁ r₁ T₁ => ?_)) (by unfold interactive; rw [ok.kind]; rfl) rfl
  obtain ⟨i, ⟨rfl, oi⟩, q₁⟩ := q₁
  cases rv with | lst _ D hD =>
  obtain ⟨a₁, o₁, e1, ⟨m1, its₁, n₁, rfl⟩, f1⟩ := R₁.M.own i oi
  rw [hD] at e1; cases e1
  refine ⟨D, its₁.toArray, rfl, ⟨_, n₁, (R₁.N _ m1).1, rfl, rfl, rfl⟩, h2.seq T₁ q₁ R₁ fun cu s₂ u σ₂ m₂ ad₂ news₂ q₂ ru R₂ l₂ r₂ T₂ => ?_⟩
  obtain ⟨l, ⟨hl', oi', hz⟩, q₂⟩ := q₂
  obtain ⟨a₂, o₂, e2, ⟨m2, its₂, n₂, rfl⟩, f2⟩ := R₂.M.own i oi'
  have hD₂ := l₂.pre i D hD
  rw [hD₂] at e2; cases e2
  obtain ⟨i2, L2, r2⟩ := isList R₂ hl' hD₂
  have g2 := (R₂.N _ m2).1
  have same : its₂ = i2 := by
    obtain ⟨o, h3, _, n', h4⟩ := L2
    rw [g2] at h3
    cases h3
    simpa using (Data.seq.inj h4).1
  subst same
  refine append_at g2 (fun h' hs hg => ?_) (by rw [List.size_toArray, ← r2.length]; simp only [sizeLine]; omega)
  rw [show (its₂.toArray.push cu) = (its₂ ++ [cu]).toArray by simp] at hg
  refine ⟨.next, _, m₂, ad₂, _, q₂, trivial, R₂.update (o' := lstObj (its₂ ++ [cu]) (n₂ + 1)) hD₂ ⟨_, _, m2, rfl, _, rfl⟩ ⟨_, rfl⟩ hs hg (r2.append (.cons _ _ _ _ ru .nil)), (l₁.trans l₂).trans (update_Le f2 fun o ho => ?_), (r₁.trans r₂).trans Rest.heap⟩
  have := (R₂.N _ ho).1
  rw [g2] at this
  cases this
  rfl
theorem sAugSub (ok : CxOK C) {p i q : PE} {o' i' e' : Expr} {op : Operator} {p₁ pos : Pos} (hns : notSlice i' = true) (h1 : SoundE C p o') (h2 : SoundE C i i') (h3 : SoundE C q e') : SoundS C (.augSub p i op q) (.AugAssign (.Subscript o' i' p₁) op e' pos) := by
  intro σ Q s m ad news T qq R
  refine wpAny_AugAssign_SubscriptAny (h1.seq T qq R fun cv s₁ v σ₁ m₁ ad₁ news₁ q₁ rv R₁ l₁ r₁ T₁ => ?_) (by intro _ _ _; cases i' <;> first | rfl | cases hns)
  obtain ⟨j, rfl, q₁⟩ := q₁
  refine h2.seq T₁ q₁ R₁ fun ci s₂ u σ₂ m₂ ad₂ news₂ q₂ ri R₂ l₂ r₂ T₂ => ?_
  obtain ⟨k, l, x, ⟨rfl, k0, k1⟩, ⟨hl, hx⟩, rfl, q₂⟩ := q₂
  cases rv with | lst _ D hD =>
  cases ri with | int _ t =>
  have hD₂ := l₂.pre j D hD
  obtain ⟨items, L, rs⟩ := isList R₂ hl hD₂
  obtain ⟨cx, hcx, rx⟩ := rs.get _ _ hx
  refine wpAny_getItem_list L k0 k1 (by simpa using hcx) ?_
  cases rx with | int _ tx =>
  refine h3.seq T₂ q₂ R₂ fun cw s₃ w σ₃ m₃ ad₃ news₃ q₃ rw R₃ l₃ r₃ T₃ => ?_
  obtain ⟨y, l', rfl, ⟨hl', oj, hk⟩, q₃⟩ := q₃
  cases rw with | int _ ty =>
  refine wpAny_iadd_int ?_
  have hD₃ := l₃.pre j D hD₂
  obtain ⟨a₂, o₂, e2, ⟨m2, its₂, n₂, rfl⟩, f2⟩ := R₃.M.own j oj
  rw [hD₃] at e2; cases e2
  obtain ⟨i2, L2, r2⟩ := isList R₃ hl' hD₃
  have g2 := (R₃.N _ m2).1
  have same : its₂ = i2 := by
    obtain ⟨o, h3, _, n', h4⟩ := L2
    rw [g2] at h3
    cases h3
    simpa using (Data.seq.inj h4).1
  subst same
  refine set_at (s := { s₃ with toks := s₃.toks + 1 }) g2 k0 k1 (by rw [List.size_toArray, ← r2.length]; exact hk) fun h' hs hg => ?_
  rw [List.setIfInBounds_toArray] at hg
  refine ⟨.next, _, m₃, ad₃, _, q₃, trivial, R₃.update (o' := lstObj (its₂.set k.toNat (.int (x + y) s₃.toks)) n₂) hD₃ ⟨_, _, m2, rfl, _, rfl⟩ ⟨_, rfl⟩ hs hg (r2.set _ (.int _ _)), ((l₁.trans l₂).trans l₃).trans (update_Le f2 fun o ho => ?_), ((r₁.trans r₂).trans r₃).trans Rest.mk'⟩
  have := (R₃.N _ ho).1
  rw [g2] at this
  cases this
  rfl
theorem sRet (ok : CxOK C) {p : PE} {e : Expr} {pos : Pos} (h1 : SoundE C p e) : SoundS C (.ret p) (.Return (some e) pos) := by
  intro σ Q s m ad news T q R
  refine wpAny_Return_some (h1.seq T q R fun cv s₁ v σ₁ m₁ ad₁ news₁ q₁ rv R₁ l₁ r₁ T₁ => ?_)
  exact ⟨.ret v, σ₁, m₁, ad₁, news₁, q₁, rv, R₁, l₁, r₁⟩

theorem sIf (ok : CxOK C) {c : PE} {a b : PSs} {c' : Expr} {a' b' : List Stmt} {pos : Pos} (h1 : SoundT C c c') (h2 : SoundSs C a a') (h3 : SoundSs C b b') : SoundS C (.ifs c a b) (.If c' a' b' pos) := by
  intro σ Q s m ad news T q R
  refine wpAny_If (h1.seq T q (fun v σ' h => by obtain ⟨b, hb, _⟩ := truthW_iff.mp h; exact ⟨b, hb⟩) R fun t s₁ v σ₁ m₁ ad₁ news₁ ht q₁ R₁ l₁ r₁ T₁ => ?_)
  obtain ⟨t', hb, q₁⟩ := truthW_iff.mp q₁
  rw [ht] at hb
  cases hb
  cases t
  · exact wpAny_mono (h3 _ _ _ _ _ _ T₁ (q₁.2 rfl) R₁) (fun _ _ x => x.up l₁ r₁) fun _ _ x => x
  · exact wpAny_mono (h2 _ _ _ _ _ _ T₁ (q₁.1 rfl) R₁) (fun _ _ x => x.up l₁ r₁) fun _ _ x => x

theorem RelM.sub {σ : St} {m : Str → Option Value} {ad : List Addr} {news news' : Led} (R : RelM C σ m ad news) (k : ∀ a o, (a, o) ∈ news → good o → (a, o) ∈ news') : RelM C σ m ad news' := by
  have hl : ∀ o its, IsL o its → good o := fun o its h => .inr (.inl h.1)
  have hk : ∀ a o, Held C.base news a o → good o → Held C.base news' a o := fun a o x g => x.elim (fun y => .inl (k a o y g)) .inr
  have lt : LeT ad news ad news' := ⟨fun _ _ h => h, fun a o hm hc => k a o hm (hc.elim .inl fun h => .inr (.inr (.inl h)))⟩
  refine ⟨fun n v hv => ?_, R.len, fun i l hl' => ?_, fun i hi => ?_, R.inj, fun a ha => ?_, fun hc x hx => ?_⟩
  · obtain ⟨x, cv, e1, e2, e3⟩ := R.loc n v hv
    refine ⟨x, cv, e1, ?_, e3.leT lt⟩
    unfold VarAt at e2 ⊢
    split
    · rename_i hx
      rw [if_pos hx] at e2
      obtain ⟨c, o, f1, f2, f3⟩ := e2
      exact ⟨c, o, f1, hk _ _ f2 (.inr (.inr (.inr ⟨_, f3⟩))), f3⟩
    · rename_i hx
      rw [if_neg hx] at e2
      exact e2
  · obtain ⟨a, its, o, e1, e2, e3⟩ := R.obj i l hl'
    exact ⟨a, its, o, e1, ⟨hk _ _ e2.1 (hl _ _ e2.2), e2.2⟩, e3.leT lt⟩
  · obtain ⟨a, o, e1, e2, e3⟩ := R.own i hi
    obtain ⟨its, hi'⟩ := e2.2
    exact ⟨a, o, e1, ⟨k _ _ e2.1 (hl _ _ hi'.toL), its, hi'⟩, e3⟩
  · obtain ⟨o, e1, its, e2⟩ := R.fzin a ha
    exact ⟨o, hk _ _ e1 (hl _ _ e2), its, e2⟩
  · obtain ⟨c, o, e1, e2, e3⟩ := R.cells hc x hx
    exact ⟨c, o, e1, k _ _ e2 (.inr (.inr (.inr e3))), e3⟩

theorem for_rule {prog : Program} {w : World} {A : Around} {R : Result → Shared → Prop} {s : Shared} {target : Expr} {it : Value} {body : List Stmt} {env : Env} (I : Nat → Shared → Prop)
    (turn : ∀ n s, I n s → wpAny (model prog w) A (pyNext it) (fun r s₁ => match r with
      | none => R (.ok .next) s₁
      | some v => wpAny (model prog w) A (letOwnedTupleGo target it v) (fun _ s₁' => wpAny (model prog w) A (assign target env v) (fun _ s₂ => wpAny (model prog w) A (execs body env) (fun f s₃ => match f with
            | .next | .cont => ∃ m, m < n ∧ I m s₃
            | .brk => R (.ok .next) s₃
            | .ret v => R (.ok (.ret v)) s₃) NoE s₂) NoE s₁') NoE s₁) NoE s)
    (n : Nat) (h : I n s) : codeAny (model prog w) A (.forLoop target it body [] env) R s := by
  have no : ∀ {E : Value → Shared → Prop} (a : Value) (b : Shared), NoE a b → E a b := fun _ _ x => x.elim
  refine codeAny_forLoop_any I (fun n s hI => wpAny_mono (turn n s hI) (fun r s₁ h₁ => ?_) no) n h
  cases r with
  | none => exact wpAny_pure h₁
  | some v => exact wpAny_mono h₁ (fun _ _ h₂ => wpAny_mono h₂ (fun _ _ h₃ => wpAny_mono h₃ (fun _ _ x => x) no) no) no

theorem fsOf_pre {v : AV} {ad ad' fs : List Addr} (pre : ∀ (i : Nat) (a : Addr), ad[i]? = some a → ad'[i]? = some a) (hf : fsOf v ad fs) : fsOf v ad' fs := by
  rcases hf with ⟨j, ax, rfl, ha, rfl⟩ | ⟨hn, rfl⟩
  · exact .inl ⟨j, ax, rfl, pre _ _ ha, rfl⟩
  · exact .inr ⟨hn, rfl⟩
theorem fsOf_get {v : AV} {ad fs : List Addr} {objs : List (List AV)} (hlen : ad.length = objs.length) (hf : fsOf v ad fs) (j : Nat) (e : v = .lst j) : ∃ l, objs[j]? = some l := by
  subst e
  rcases hf with ⟨j', ax, e, ha, _⟩ | ⟨hn, _⟩
  · cases e
    have := (List.getElem?_eq_some_iff.mp ha).1
    rw [hlen] at this
    exact ⟨_, List.getElem?_eq_getElem this⟩
  · exact absurd rfl (hn j)
noncomputable def ForInv (C : Cx) (J : Nat → St → Prop) (St : Nat → Heap → Prop) (I : Addr) (fs ad : List Addr) (news : Led) (len : Nat) (s : Shared) (k : Nat) (s' : Shared) : Prop :=
  ∃ i σ' h tk m' ad' news', (k = len - i ∧ i ≤ len) ∧ (s' = { s with heap := h, toks := tk } ∧ 0 < tk) ∧ J i σ' ∧ Rel C σ' h m' ad' news' ∧ (∀ p ∈ news', p.1 ≠ I) ∧ St i h ∧ Le (fs ++ C.fz) ad news ad' news'
theorem for_next {s : Shared} {ad : List Addr} {news : Led} {items : List AV} {J : Nat → St → Prop} {St : Nat → Heap → Prop} {P : Nat → Value → Prop} {I : Addr} {fp fs : List Addr} {i : Nat} {ad' ad₃ : List Addr} {news' news₃ : Led} {oI : Obj} {h' h₃ : Heap} {tk₃ : Nat} {σ₃ : Mine.St} {m' m₃ : Str → Option Value}
    (it : Iter C items ad news I fp fs P St) (hlt : i < items.length) (hnI : ∀ p ∈ news, p.1 ≠ I) (l' : Le (fs ++ C.fz) ad news ad' news') (hst' : St (i + 1) h') (eI : h'.get? I = some oI) (hngI : ¬ good oI) (F' : Fr C.base C.env.locals h' m') (N' : News C.base C.env.locals h' news')
    (lT : Le (fs ++ C.fz) ad' news' ad₃ news₃) (hI₃ : (I, oI) ∈ news₃) (F₃ : Fr C.base C.env.locals h₃ m₃) (N₃ : News C.base C.env.locals h₃ news₃) (M₃ : RelM C σ₃ m₃ ad₃ news₃) (q₃ : J (i + 1) σ₃) (T : 0 < tk₃) :
    ∃ m, m < items.length - i ∧ ForInv C J St I fs ad news items.length s m { s with heap := h₃, toks := tk₃ } := by
  refine ⟨items.length - (i + 1), Nat.sub_lt_sub_left hlt (Nat.lt_succ_self i), i + 1, _, h₃, tk₃, m₃, ad₃, news₃.filter fun p => p.1 != I, ⟨rfl, hlt⟩, ⟨rfl, T⟩, q₃, ⟨F₃, fun p hp => N₃ p (List.mem_filter.mp hp).1, M₃.sub (sub_filter N₃ hI₃ hngI)⟩, ?_, ?_, ?_⟩
  · intro p hp
    simpa using (List.mem_filter.mp hp).2
  · refine it.W.frame _ _ _ hst' fun b hb o' e => ?_
    rcases it.fpIn b hb with rfl | ⟨o₂, hh, hk2⟩
    · rw [eI] at e
      cases e
      exact (N₃ _ hI₃).1
    · rcases hh with hh | hh
      · have g1 := l'.keep _ _ hh (hk2.elim (fun h => .inl (List.mem_append_left _ h)) .inr)
        have g2 := (N' _ g1).1
        rw [e] at g2
        cases g2
        exact (N₃ _ (lT.keep _ _ g1 (hk2.elim (fun h => .inl (List.mem_append_left _ h)) .inr))).1
      · have g2 := F'.keep _ _ hh
        rw [e] at g2
        cases g2
        exact F₃.keep _ _ hh
  · refine ⟨fun i a h => lT.pre i a (l'.pre i a h), fun a o' hm hk => List.mem_filter.mpr ⟨lT.keep _ _ (l'.keep _ _ hm hk) hk, ?_⟩⟩
    simp only [bne_iff_ne, ne_eq]
    exact hnI _ hm
theorem sFor (ok : CxOK C) (hoc : C.ownCells = true) {t : Tgt} {t' : Expr} {p : PE} {e : Expr} {ps : PSs} {body : List Stmt} {pos : Pos} (hm : mT C.K t t' = true) (hset : notSet e = true) (h1 : SoundE C p e)
    (hb : ∀ fz, SoundSs { C with fz := fz } ps body) : SoundS C (.for_ t p ps) (.For t' e body [] pos) := by
  intro σ Q s m ad news T q R
  have hs : ∀ v, foldedSetIterable e C.env v = pure v := by intro v; cases e <;> first | rfl | cases hset
  refine wpAny_For (h1.seq T q R fun cv s₁ v σ₁ m₁ ad₁ news₁ q₁ rv R₁ l₁ r₁ T₁ => ?_) hs
  refine iter_sound ok q₁ R₁ rv fun items io fp fs P St hk it hf hst hfp => ?_
  obtain ⟨J, j0, jt, jd⟩ := hk
  generalize hI : s₁.heap.objs.size = I at *
  have fresh : C.base.get? I = none := by
    cases e : C.base.get? I with
    | none => rfl
    | some o' => exact absurd (Heap.lt_size (R₁.F.keep _ _ e)) (by rw [hI]; exact Nat.lt_irrefl _)
  have hnI : ∀ p ∈ news₁, p.1 ≠ I := fun p hp e => by
    have := Heap.lt_size (R₁.N p hp).1
    rw [hI, e] at this
    exact Nat.lt_irrefl _ this
  have hIL : I ≠ C.env.locals := by
    obtain ⟨o, _, _, e, _⟩ := R₁.F.ns
    have := Heap.lt_size e
    rw [hI] at this
    exact Nat.ne_of_gt this
  have no : ∀ {E : Value → Shared → Prop} (a : Value) (b : Shared), NoE a b → E a b := fun _ _ x => x.elim
  refine for_rule (ForInv C J St I fs ad₁ news₁ items.length s₁) ?_ items.length ?_
  · rintro k s' ⟨i, σ', h, tk, m', ad', news', ⟨rfl, hi⟩, ⟨rfl, T⟩, hj, R', hn', hsti, l'⟩
    have lC : Le C.fz ad₁ news₁ ad' news' := ⟨l'.pre, fun a o hm hk => l'.keep a o hm (hk.elim (fun h => .inl (List.mem_append_right _ h)) .inr)⟩
    by_cases hlast : i = items.length
    · subst hlast
      refine it.W.done _ _ _ hsti fun h' tk' hk => ?_
      obtain ⟨F', N'⟩ := keep_it R'.F R'.N fresh hIL hn' hk
      exact ⟨.next, σ', m', ad', news', jd _ hj, trivial, ⟨F', N', R'.M⟩, l₁.trans lC, r₁.trans Rest.mk'⟩
    · have hlt : i < items.length := by omega
      refine withT (C := C) T (it.W.item i _ _ _ hlt hsti fun cu h' tk' hP hst' hk T' => ?_)
      obtain ⟨F', N'⟩ := keep_it R'.F R'.N fresh hIL hn' hk
      have pI := it.plain _ _ hst'
      obtain ⟨oI, eI, hngI⟩ := it_bad pI
      have hkI := bad_keep hngI
      have hf' := fsOf_pre l'.pre hf
      have hl' := fsOf_get R'.M.len hf'
      have R1 : Rel { C with fz := fs ++ C.fz } { σ' with own := frozen v σ'.own } h' m' ad' ((I, oI) :: news') :=
        ⟨F', fun p hp => by
          rcases List.mem_cons.mp hp with rfl | hp
          · exact ⟨eI, hIL, fresh⟩
          · exact N' p hp, (RelM.freeze R'.M (cv := cv) hf' hl').mono fun _ h => .tail _ h⟩
      obtain ⟨u, hu, rvu⟩ := it.item i cu hP hlt
      have rvu' : RV C.base C.fa ad' ((I, oI) :: news') u cu := (rvu.le l').le (fz := []) (.all (fun _ _ h => h) fun _ h => .tail _ h)
      refine letOwned pI ?_
      refine withT (C := C) T' (bind_sound (C := { C with fz := fs ++ C.fz }) (s := { s₁ with heap := h', toks := tk' }) (ok.fz _) hm (may hoc _) (jt i u σ' hu hj) R1 rvu' fun σ₂ h₂ tk₂ m₂ news₂ q₂ R₂ l₂ T₂ => ?_)
      refine wpAny_mono (wpAny_toks (hb (fs ++ C.fz) σ₂ _ { s₁ with heap := h₂, toks := tk₂ } m₂ ad' news₂ T₂ q₂ R₂)) (fun f s₃ hp => ?_) (fun a b x => no a b x.2)
      obtain ⟨ht₃, fl, σ₃, m₃, ad₃, news₃, q₃, hfl, R₃, l₃, ⟨h₃, tk₃, rfl⟩⟩ := hp
      have lT : Le (fs ++ C.fz) ad' news' ad₃ news₃ := (Le.cons.trans l₂).trans l₃
      have lT' : Le C.fz ad' news' ad₃ news₃ := ⟨lT.pre, fun a o hm hk => lT.keep a o hm (hk.elim (fun h => .inl (List.mem_append_right _ h)) .inr)⟩
      have M₃ : RelM C { σ₃ with own := thawed v σ'.own σ₃.own } m₃ ad₃ news₃ := RelM.thaw R₃.M hf' R'.M lT
      cases fl with
      | ret u =>
        cases f with
        | ret cv => exact ⟨.ret u, _, m₃, ad₃, news₃, q₃, hfl, ⟨R₃.F, R₃.N, M₃⟩, (l₁.trans lC).trans lT', r₁.trans Rest.mk'⟩
        | _ => cases hfl
      | next =>
        cases f with
        | next =>
          have hI₃ : (I, oI) ∈ news₃ := l₃.keep _ _ (l₂.keep _ _ (.head _) (.inr hkI)) (.inr hkI)
          exact for_next it hlt hnI l' hst' eI hngI F' N' lT hI₃ R₃.F R₃.N M₃ q₃ (Nat.lt_of_lt_of_le T₂ ht₃)
        | _ => cases hfl
  · exact ⟨0, σ₁, _, s₁.toks, m₁, ad₁, news₁, ⟨rfl, Nat.zero_le _⟩, ⟨rfl, T₁⟩, j0, ⟨R₁.F.push _, R₁.N.grown fun _ _ e => Heap.get?_push_of_some _ e, R₁.M⟩, hnI, hst, Le.refl⟩

theorem sSsNil : SoundSs C .nil [] := by
  intro σ Q s m ad news T q R
  exact wpAny_execs_nil ⟨.next, σ, m, ad, news, q, trivial, R, Le.refl, Rest.refl⟩
theorem sSsCons {p : PS} {st : Stmt} {ps : PSs} {sts : List Stmt} (h1 : SoundS C p st) (h2 : SoundSs C ps sts) : SoundSs C (.cons p ps) (st :: sts) := by
  intro σ Q s m ad news T q R
  refine wpAny_execs_cons (wpAny_mono (wpAny_toks (h1 σ _ s m ad news T q R)) (fun f s₁ hp => ?_) fun _ _ x => x.2)
  obtain ⟨ht, fl, σ₁, m₁, ad₁, news₁, q₁, hf, R₁, l₁, r₁⟩ := hp
  cases fl with
  | next =>
    cases f with
    | next => exact wpAny_mono (h2 σ₁ _ s₁ m₁ ad₁ news₁ (Nat.lt_of_lt_of_le T ht) q₁ R₁) (fun _ _ x => x.up l₁ r₁) fun _ _ x => x
    | _ => cases hf
  | ret v =>
    cases f with
    | ret cv => exact ⟨.ret v, σ₁, m₁, ad₁, news₁, q₁, hf, R₁, l₁, r₁⟩
    | _ => cases hf

noncomputable def Wassign (K : Keys) (st : Stmt) (t : Tgt) (e : PE) : Prop := ∃ t' e' pos, st = .Assign [t'] e' pos ∧ (mT K t t' && ((rhsOk t' e' || swapOk K t' e') && mE K e e')) = true
theorem inv_assign {K : Keys} {st : Stmt} {t : Tgt} {e : PE} (h : mS K (.assign t e) st = true) : Wassign K st t e := by
  cases st <;> first | exact (Bool.false_ne_true h).elim | skip
  rename_i ts e' pos
  match ts, h with
  | [t'], h => exact ⟨_, _, _, rfl, h⟩
noncomputable def Wswap (K : Keys) (st : Stmt) (ns : List Nat) (e : PE) : Prop := ∃ es k p₁ vs k' p₂ pos, st = .Assign [.Tuple es k p₁] (.Tuple vs k' p₂) pos ∧ (swapT K ns es vs && mE K e (.Tuple vs k' p₂)) = true
theorem inv_swap {K : Keys} {st : Stmt} {ns : List Nat} {e : PE} (h : mS K (.swap ns e) st = true) : Wswap K st ns e := by
  cases st <;> first | exact (Bool.false_ne_true h).elim | skip
  rename_i ts v pos
  cases ts with
  | nil => exact (Bool.false_ne_true h).elim
  | cons t₁ ts =>
    cases t₁ <;> first | exact (Bool.false_ne_true h).elim | skip
    cases ts with
    | cons _ _ => exact (Bool.false_ne_true h).elim
    | nil => cases v <;> first | exact (Bool.false_ne_true h).elim | exact ⟨_, _, _, _, _, _, _, rfl, h⟩
noncomputable def WaugSub (K : Keys) (st : Stmt) (o i : PE) (op : Operator) (e : PE) : Prop := ∃ o' i' p₁ op' e' pos, st = .AugAssign (.Subscript o' i' p₁) op' e' pos ∧ (notSlice i' && (op == op' && (mE K o o' && (mE K i i' && mE K e e')))) = true
theorem inv_augSub {K : Keys} {st : Stmt} {o i : PE} {op : Operator} {e : PE} (h : mS K (.augSub o i op e) st = true) : WaugSub K st o i op e := by
  cases st <;> first | exact (Bool.false_ne_true h).elim | skip
  rename_i t' op' e' pos
  cases t' <;> first | exact (Bool.false_ne_true h).elim | exact ⟨_, _, _, _, _, _, rfl, h⟩
noncomputable def Wappend (K : Keys) (st : Stmt) (o e : PE) : Prop := ∃ x p₁ apos e' pos pos', st = .Expr (.Call (.Attribute (.Name x p₁) "append" apos) [e'] [] pos) pos' ∧ (apos.endLine == pos.line && (notStar e' && (mE K o (.Name x p₁) && mE K e e'))) = true
theorem inv_append {K : Keys} {st : Stmt} {o e : PE} (h : mS K (.append o e) st = true) : Wappend K st o e := by
  cases st <;> first | exact (Bool.false_ne_true h).elim | skip
  rename_i c pos'
  cases c <;> first | exact (Bool.false_ne_true h).elim | skip
  rename_i f es kws pos
  cases f <;> first | exact (Bool.false_ne_true h).elim | skip
  rename_i o' a apos
  match es, kws, h with
  | [e'], [], h =>
    obtain ⟨h1, h⟩ := and2 h
    obtain ⟨h2, h⟩ := and2 h
    have ea := eq_of_beq h2
    subst ea
    cases o' <;> first | exact (Bool.false_ne_true h1).elim | exact ⟨_, _, _, _, _, _, rfl, h⟩
noncomputable def Wifs (K : Keys) (st : Stmt) (c : PE) (a b : PSs) : Prop := ∃ c' a' b' pos, st = .If c' a' b' pos ∧ (mE K c c' && (mSs K a a' && mSs K b b')) = true
theorem inv_ifs {K : Keys} {st : Stmt} {c : PE} {a b : PSs} (h : mS K (.ifs c a b) st = true) : Wifs K st c a b := by
  cases st <;> first | exact (Bool.false_ne_true h).elim | exact ⟨_, _, _, _, rfl, h⟩
noncomputable def Wfor (K : Keys) (st : Stmt) (t : Tgt) (it : PE) (body : PSs) : Prop := ∃ t' it' body' pos, st = .For t' it' body' [] pos ∧ (mT K t t' && (notSet it' && (mE K it it' && mSs K body body'))) = true
theorem inv_for {K : Keys} {st : Stmt} {t : Tgt} {it : PE} {body : PSs} (h : mS K (.for_ t it body) st = true) : Wfor K st t it body := by
  cases st <;> first | exact (Bool.false_ne_true h).elim | skip
  rename_i t' it' body' els pos
  cases els with
  | cons _ _ => exact (Bool.false_ne_true h).elim
  | nil => exact ⟨_, _, _, _, rfl, h⟩
noncomputable def Wret (K : Keys) (st : Stmt) (e : PE) : Prop := ∃ e' pos, st = .Return (some e') pos ∧ mE K e e' = true
theorem inv_ret {K : Keys} {st : Stmt} {e : PE} (h : mS K (.ret e) st = true) : Wret K st e := by
  cases st <;> first | exact (Bool.false_ne_true h).elim | skip
  rename_i v pos
  cases v with
  | none => exact (Bool.false_ne_true h).elim
  | some e' => exact ⟨_, _, rfl, h⟩
noncomputable def Wname (K : Keys) (n : Nat) (t' : Expr) : Prop := ∃ x p₁, t' = .Name x p₁ ∧ (K.names[n]? == some x) = true
theorem inv_tn {K : Keys} {n : Nat} {t' : Expr} (h : mT K (.name n) t' = true) : Wname K n t' := by
  cases t' <;> first | exact (Bool.false_ne_true h).elim | exact ⟨_, _, rfl, h⟩
noncomputable def Wtup (K : Keys) (ns : List Nat) (t' : Expr) : Prop := ∃ es k p₁, t' = .Tuple es k p₁ ∧ mT K (.tup ns) (.Tuple es k p₁) = true
theorem inv_tt {K : Keys} {ns : List Nat} {t' : Expr} (h : mT K (.tup ns) t' = true) : Wtup K ns t' := by
  cases t' <;> first | exact (Bool.false_ne_true h).elim | exact ⟨_, _, _, rfl, h⟩
mutual
theorem soundS : ∀ (p : PS) (C : Cx) (ok : CxOK C) (hoc : C.ownCells = true) (st : Stmt), mS C.K p st = true → SoundS C p st
  | .assign t e, C, ok, hoc, st, h => by
    obtain ⟨t', e', pos, rfl, h⟩ := inv_assign h
    obtain ⟨h1, h⟩ := and2 h
    obtain ⟨h2, h3⟩ := and2 h
    cases t with
    | name n =>
      obtain ⟨x, p₁, rfl, hx⟩ := inv_tn h1
      by_cases hr : rhsOk (.Name x p₁) e' = true
      · exact sAssignN ok hoc (eq_of_beq hx) hr (sound e C ok _ h3).1
      · rw [Bool.not_eq_true] at hr
        rw [hr, Bool.false_or] at h2
        exact (Bool.false_ne_true h2).elim
    | tup ns =>
      obtain ⟨es, k, p₁, rfl, hx⟩ := inv_tt h1
      have hr : rhsOk (.Tuple es k p₁) e' = true := by
        have : swapOk C.K (.Tuple es k p₁) e' = false := rfl
        rw [this, Bool.or_false] at h2
        exact h2
      exact sAssignT ok hoc hx hr (sound e C ok _ h3).1
  | .swap ns e, C, ok, hoc, st, h => by
    obtain ⟨es, k, p₁, vs, k', p₂, pos, rfl, h⟩ := inv_swap h
    obtain ⟨h1, h2⟩ := and2 h
    exact sSwap ok h1 (sound e C ok _ h2).1
  | .augSub o i op e, C, ok, hoc, st, h => by
    obtain ⟨o', i', p₁, op', e', pos, rfl, h⟩ := inv_augSub h
    obtain ⟨hn, h⟩ := and2 h
    obtain ⟨ho, h⟩ := and2 h
    obtain ⟨h1, h⟩ := and2 h
    obtain ⟨h2, h3⟩ := and2 h
    have ho' := eq_of_beq ho
    subst ho'
    exact sAugSub ok hn (sound o C ok _ h1).1 (sound i C ok _ h2).1 (sound e C ok _ h3).1
  | .append o e, C, ok, hoc, st, h => by
    obtain ⟨x, p₁, apos, e', pos, pos', rfl, h⟩ := inv_append h
    obtain ⟨hl, h⟩ := and2 h
    obtain ⟨hn, h⟩ := and2 h
    obtain ⟨h1, h2⟩ := and2 h
    exact sAppend ok hl hn (sound o C ok _ h1).1 (sound e C ok _ h2).1
  | .ifs c a b, C, ok, hoc, st, h => by
    obtain ⟨c', a', b', pos, rfl, h⟩ := inv_ifs h
    obtain ⟨h1, h⟩ := and2 h
    obtain ⟨h2, h3⟩ := and2 h
    exact sIf ok (sound c C ok _ h1).2 (soundSs a C ok hoc _ h2) (soundSs b C ok hoc _ h3)
  | .for_ t it body, C, ok, hoc, st, h => by
    obtain ⟨t', it', body', pos, rfl, h⟩ := inv_for h
    obtain ⟨h1, h⟩ := and2 h
    obtain ⟨h2, h⟩ := and2 h
    obtain ⟨h3, h4⟩ := and2 h
    exact sFor ok hoc h1 h2 (sound it C ok _ h3).1 fun fz => soundSs body { C with fz := fz } (ok.fz fz) hoc _ h4
  | .ret e, C, ok, hoc, st, h => by
    obtain ⟨e', pos, rfl, h⟩ := inv_ret h
    exact sRet ok (sound e C ok _ h).1
theorem soundSs : ∀ (ps : PSs) (C : Cx) (ok : CxOK C) (hoc : C.ownCells = true) (sts : List Stmt), mSs C.K ps sts = true → SoundSs C ps sts
  | .nil, C, ok, hoc, [], _ => sSsNil
  | .nil, _, _, _, _ :: _, h => by cases h
  | .cons _ _, _, _, _, [], h => by cases h
  | .cons p ps, C, ok, hoc, st :: sts, h => by
    exact sSsCons (soundS p C ok hoc st (and2 h).1) (soundSs ps C ok hoc sts (and2 h).2)
end
end
end Mine
namespace Mine
open PySem PySem.W PySem.Calls PyProof.Rows PyProof.V PySem.Spec

structure PF where
  prog : Program
  w : World
  p : Program
  loose : List Str
  mean : ExcName → Option Value
  mg : Str → Option Value
  mb : Str → Option Value

structure FrameOf (P : PF) (C : Cx) (room : Nat) : Prop where
  prog : C.prog = P.prog
  w : C.w = P.w
  mg : C.mg = P.mg
  mb : C.mb = P.mb
  top : Top P.p P.loose P.mean P.mg P.mb C.base
  nb : NoneBooked C.base
  depth : C.A.depth + room < recursionLimit
  hh : C.A.handled = none
  units : C.A.units + 3 * room + 64 < cLine
  keep : ∀ b o, C.fa.top.get? b = some o → C.base.get? b = some o
  eg : C.env.globals = mainGlobals
  eb : C.env.builtins = builtinsNs
  kind : C.env.scope.kind = .function

theorem FrameOf.fz {P : PF} {C : Cx} {room : Nat} (Fo : FrameOf P C room) (f : List Addr) : FrameOf P { C with fz := f } room :=
  ⟨Fo.prog, Fo.w, Fo.mg, Fo.mb, Fo.top, Fo.nb, Fo.depth, Fo.hh, Fo.units, Fo.keep, Fo.eg, Fo.eb, Fo.kind⟩
structure GOK (P : PF) (fa : FA) (globs : List Str) (gval : Nat → Option AV) : Prop where
  ok : ∀ (j : Nat) (x : Str) (v : AV), globs[j]? = some x → gval j = some v → (x == ("__debug__" : Str)) = false ∧ ∃ cv, GV fa v cv ∧ (P.mg x = some cv ∨ (P.mg x = none ∧ P.mb x = some cv))

structure CellsOk (K : Keys) (names : List (Str × NameKind)) : Prop where
  at_ : ∀ x ∈ K.cells, x ∈ (cellsFrom 0 names []).map (·.1)
  nd : ((cellsFrom 0 names []).map (·.1)).Nodup

theorem mem_lookup {α : Type} {x : Str} : ∀ {l : List (Str × α)}, x ∈ l.map (·.1) → ∃ c, l.lookup x = some c
  | [], h => by cases h
  | (n, c) :: r, h => by
    simp only [List.lookup_cons]
    cases hx : x == n with
    | true => exact ⟨c, rfl⟩
    | false =>
      rcases List.mem_cons.mp h with h | h
      · rw [h] at hx; simp at hx
      · exact mem_lookup h

theorem bindL_eq (kindOf : Str → Option NameKind) : ∀ (binds : List (Str × Value)) (m : Str → Option Value) (x : Str), (∀ p ∈ binds, kindOf p.1 = some .local) → ∀ v, binds.reverse.lookup x = some v → bindL kindOf binds m x = some v := by
  have key : ∀ (binds : List (Str × Value)) (m : Str → Option Value) (x : Str), (∀ p ∈ binds, kindOf p.1 = some .local) → bindL kindOf binds m x = (binds.reverse.lookup x).or (m x) := by
    intro binds
    induction binds with
    | nil => intro m x _; simp [bindL]
    | cons p r ih =>
      obtain ⟨n, v⟩ := p
      intro m x h
      have hn : kindOf n = some .local := h (n, v) (.head _)
      simp only [bindL, hn, if_true]
      rw [ih _ _ fun p hp => h p (.tail _ hp)]
      simp only [List.reverse_cons, List.lookup_append]
      cases (r.reverse.lookup x) with
      | some u => simp
      | none =>
        by_cases hx : x = n
        · subst hx; simp [List.lookup_cons]
        · have : (x == n) = false := by simpa using hx
          simp [List.lookup_cons, hx, this]
  intro binds m x h v hv
  rw [key binds m x h, hv]
  rfl

theorem zip_lookup {names : List Str} {vals : List Value} (nd : names.Nodup) {n : Nat} {x : Str} {v : Value} (hx : names[n]? = some x) (hv : vals[n]? = some v) : (names.zip vals).reverse.lookup x = some v := by
  have hz : (names.zip vals)[n]? = some (x, v) := by rw [List.getElem?_zip_eq_some]; exact ⟨hx, hv⟩
  have hn := (List.getElem?_eq_some_iff.mp hz).1
  have hsplit : names.zip vals = (names.zip vals).take n ++ (x, v) :: (names.zip vals).drop (n + 1) := by
    have h1 := List.take_append_drop n (names.zip vals)
    rw [List.drop_eq_getElem_cons hn] at h1
    rw [(List.getElem?_eq_some_iff.mp hz).2] at h1
    exact h1.symm
  rw [hsplit, List.reverse_append, List.reverse_cons, List.append_assoc]
  refine List.lookup_eq_some_iff.mpr ⟨_, _, rfl, fun p hp => ?_⟩
  have hp' := List.mem_reverse.mp hp
  obtain ⟨k, hk⟩ := List.mem_iff_getElem?.mp hp'
  rw [List.getElem?_drop] at hk
  obtain ⟨h1, h2⟩ := List.getElem?_zip_eq_some.mp (show (names.zip vals)[n + 1 + k]? = some (p.1, p.2) from hk)
  simp only [bne_iff_ne, ne_eq]
  intro e
  rw [← e] at h1
  have := nodup_inj nd h1 hx
  omega

theorem cells_mem {cm : Str → Option Value} : ∀ {cs : List (Str × Addr)} {cells : List (Addr × Obj)}, CellsAre cm cs cells → ∀ n c, (n, c) ∈ cs → ∃ o, (c, o) ∈ cells ∧ o.data = .cell (cm n)
  | _, _, .nil, n, c, h => by cases h
  | _, _, .cons hd r, n, c, h => by
    rcases List.mem_cons.mp h with e | h
    · cases e
      exact ⟨_, .head _, hd⟩
    · obtain ⟨o, h1, h2⟩ := cells_mem r n c h
      exact ⟨o, .tail _ h1, h2⟩

noncomputable def fnW (g : Nat → Option AV) (fns : Fns) (np : Nat) (ps : PSs) (args : List AV) (objs : List (List AV)) (Q : AV → List (List AV) → Prop) : Prop :=
  args.length = np ∧ wpSs g fns ps ⟨fun i => args[i]?, objs, []⟩ fun fl σ => match fl with | .ret v => Q v σ.objs | .next => Q .none σ.objs

structure DefIs (P : PF) (d : DefRec) (np : Nat) (K : Keys) (ps : PSs) : Prop where
  mem : d ∈ recsOf P.p
  body : mSs K ps d.body = true
  nodup : K.names.Nodup
  params : ∀ (vals : List Value), vals.length = np → ∀ pm cdv doc, bindArgs (docDef d.name d.params d.body d.scope pm cdv doc) ⟨vals, []⟩ = pure ((K.names.take np).zip vals)
  hnp : np ≤ K.names.length
  plain : ∀ x ∈ K.names.take np, x ∉ K.cells
  locs : ∀ x ∈ K.names, (x == ("__debug__" : Str)) = false ∧ (x ∉ K.cells → d.scope.names.lookup x = some .local) ∧ (x ∈ K.cells → d.scope.names.lookup x = some .cell)
  globs : ∀ x ∈ K.globs, x ∉ K.far → d.scope.names.lookup x = some .globalImplicit
  kind : d.scope.kind = .function
  gen : d.scope.isGenerator = false
  co : d.scope.isCoroutine = false
  cells : CellsOk K d.scope.names

theorem cells_apart : ∀ (names : List (Str × NameKind)) (n : Nat) (acc : List (Str × Addr)), (∀ p ∈ acc, p.2 < n) → acc.Pairwise (fun x y => x.2 ≠ y.2) → (cellsFrom n names acc).Pairwise fun x y => x.2 ≠ y.2
  | [], _, _, _, h => h
  | (name, kind) :: r, n, acc, hl, h => by
    unfold cellsFrom
    split
    · refine cells_apart r (n + 1) _ (fun p hp => ?_) (List.Pairwise.cons (fun p hp => Nat.ne_of_gt (hl p hp)) h)
      rcases List.mem_cons.mp hp with rfl | hp
      · exact Nat.lt_succ_self _
      · exact Nat.lt_succ_of_lt (hl p hp)
    · exact cells_apart r n acc hl h
theorem frame_ok {P : PF} {C : Cx} {room : Nat} (Fo : FrameOf P C room) (G : GOK P C.fa C.K.globs C.gval) (nd : C.K.names.Nodup)
    (locs : ∀ x ∈ C.K.names, (x == ("__debug__" : Str)) = false ∧ (x ∉ C.K.cells → C.env.kindOf x = some .local) ∧ (x ∈ C.K.cells → C.env.kindOf x = some .cell))
    (globs : ∀ x ∈ C.K.globs, x ∉ C.K.far → C.env.kindOf x = some .globalImplicit) (hcells : ∃ b names, C.env.cells = cellsFrom b names [] ∧ CellsOk C.K names)
    (call : ∀ (fz : List Addr) (k : Nat) (args : List AV) (cargs : List Value) (σ : St) (Q : AV → St → Prop) (s : Shared) (m : Str → Option Value) (ad : List Addr) (news : Led),
      0 < s.toks → Rel { C with fz := fz } σ s.heap m ad news → RVs C.base C.fa ad news args cargs → C.fns k args σ.objs (fun v objs => Q v { σ with objs := objs }) → Wp C (call (.ref (C.fa.addr k)) cargs) (PostV { C with fz := fz } Q s ad news) s) : CxOK C where
  hh := Fo.hh
  htop := Fo.keep
  nb := Fo.nb
  units := by have := Fo.units; omega
  kind := Fo.kind
  nodup := nd
  locs := locs
  cellinj := fun x hx y hy c h1 h2 => by
    obtain ⟨b, names, e, hc⟩ := hcells
    rw [e] at h1 h2
    exact name_of_addr (cells_apart names b [] (fun _ hm => (nomatch hm)) List.Pairwise.nil) (mem_of_lookup h1) (mem_of_lookup h2)
  cellat := fun x hx => by
    obtain ⟨b, names, e, hc⟩ := hcells
    rw [e]
    refine mem_lookup ?_
    rw [cellsFrom_names names b 0 [] [] rfl]
    exact hc.at_ x hx
  g := by rw [Fo.mg]; exact Fo.top.g
  b := by rw [Fo.mb]; exact Fo.top.b
  eg := Fo.eg
  eb := Fo.eb
  globs := fun j x v hj hv => by
    obtain ⟨h1, cv, h2, h3⟩ := G.ok j x v hj hv
    refine ⟨⟨h1, fun hf => globs x (List.mem_of_getElem? hj) hf⟩, cv, h2, ?_⟩
    rw [Fo.mg, Fo.mb]
    exact h3
  call := call

theorem call_cellsT {prog : Program} {w : World} {A : Around} {R : Result → Shared → Prop} {s : Shared} {name : Str} {params : Arguments} {body : List Stmt} {scope : Scope}
    {pm cd doc : Value} {a : Addr} {o : Obj} {args : List Value} {binds : List (Str × Value)} (T : 0 < s.toks)
    (hroom : A.depth < recursionLimit) (ho : s.heap.get? a = some o) (hdata : o.data = .func (Calls.docDef name params body scope pm cd doc)) (hlim : s.heap.NoLimit) (hcd : s.heap.CodeRec cd name)
    (hbind : bindArgs (Calls.docDef name params body scope pm cd doc) ⟨args, []⟩ = pure binds)
    (hkind : ∀ x ∈ binds, scope.names.lookup x.1 = some .local ∨ (scope.names.lookup x.1 = some .cell ∧ ((cellsFrom (s.heap.objs.size + 1) scope.names []).lookup x.1).isSome = true))
    (hnd : ((cellsFrom 0 scope.names []).map (·.1)).Nodup)
    (h : ∀ h₁ tk cells, 0 < tk → Fr s.heap s.heap.objs.size h₁ (bindL (envOfC name scope s.heap.objs.size a cd).kindOf binds fun _ => none) → News s.heap s.heap.objs.size h₁ cells →
      CellsAre (bindC (envOfC name scope s.heap.objs.size a cd).kindOf binds fun _ => none) (cellsFrom (s.heap.objs.size + 1) scope.names []) cells →
      wpAny (model prog w) (A.deeper (envOfC name scope s.heap.objs.size a cd)) (execs body (envOfC name scope s.heap.objs.size a cd))
        (fun f s' => R (.ok (.ret (match f with | .ret v => v | _ => .none))) s') (fun _ _ => False) { s with heap := h₁, toks := tk })
    (hco : scope.isCoroutine = false) (hgen : scope.isGenerator = false) (hk : scope.kind = .function) :
    codeAny (model prog w) A (.call (.ref a) ⟨args, []⟩) R s := by
  refine codeAny_call_function hroom ho hdata hco hgen rfl hcd ?_
  rw [hbind]
  refine wpAny_pure (wpAny_with_toks (n := 1) T (wpAny_newFunctionEnv_cells hk hkind fun env he s' X T' => ?_))
  subst he
  obtain ⟨h₁, tk, rfl⟩ := X.toInCall.same
  refine ⟨hlim.keeps X.toInCall.keep, codeAny_func ?_⟩
  obtain ⟨cells, N, Y⟩ := Cl.news (h₀ := s.heap) (L := s.heap.objs.size) (Nat.le_refl _) fun n c hm => ⟨X.cell n c (lookup_of_mem_nodup (cellsFrom_names scope.names 0 (s.heap.objs.size + 1) [] [] rfl ▸ hnd) hm), X.above n c hm⟩
  exact wpAny_mono (h h₁ tk cells T' ⟨X.toInCall.ns, X.toInCall.keep, X.toInCall.fresh⟩ N Y) (fun _ _ x => x) (fun _ _ x => x.elim)

theorem call_def {P : PF} {C : Cx} {room : Nat} {d : DefRec} {np : Nat} {K : Keys} {ps : PSs} {gval : Nat → Option AV} {fns : Fns} {k : Nat} (Fo : FrameOf P C (room + 1)) (D : DefIs P d np K ps)
    (hfa : P.mg d.name = some (.ref (C.fa.addr k)))
    (hok : ∀ C' : Cx, C'.K = K → C'.gval = gval → C'.fns = fns → C'.fa = C.fa → FrameOf P C' room → (∀ x, C'.env.kindOf x = d.scope.names.lookup x) → (∃ b names, C'.env.cells = cellsFrom b names [] ∧ CellsOk C'.K names) → CxOK C') :
    ∀ (args : List AV) (cargs : List Value) (σ : St) (Q : AV → St → Prop) (s : Shared) (m : Str → Option Value) (ad : List Addr) (news : Led),
    0 < s.toks → Rel C σ s.heap m ad news → RVs C.base C.fa ad news args cargs → fnW gval fns np ps args σ.objs (fun v objs => Q v { σ with objs := objs }) → Wp C (call (.ref (C.fa.addr k)) cargs) (PostV C Q s ad news) s := by
  intro args cargs σ Q s m ad news T R ra q
  obtain ⟨f, o, pm, code, doc, h1, h2, h3, h4⟩ := Fo.top.fn d D.mem
  rw [hfa] at h1
  cases h1
  have hlen : cargs.length = np := by rw [← ra.length]; exact q.1
  have hcellN : ∀ b : Nat, ((cellsFrom b d.scope.names []).map (·.1)) = ((cellsFrom 0 d.scope.names []).map (·.1)) := fun b => cellsFrom_names d.scope.names b 0 [] [] rfl
  have hloc : ∀ x ∈ (K.names.take np).zip cargs, d.scope.names.lookup x.1 = some .local := fun x hx => by
    have hm := (List.of_mem_zip hx).1
    exact (D.locs x.1 (List.mem_of_mem_take hm)).2.1 (D.plain _ hm)
  refine wpAny_call (call_cellsT T (by have := Fo.depth; (first | lia | omega)) (R.F.keep _ _ h2) h3 (Fo.top.nolimit.keeps R.F.keep) (h4.keeps R.F.keep) (D.params cargs hlen pm code doc) (fun x hx => .inl (hloc x hx)) D.cells.nd (fun h₁ tk cells T₁ F₁ N₁ X₁ => ?_) D.co D.gen D.kind)
  let env' := envOfC d.name d.scope s.heap.objs.size (C.fa.addr k) code
  let C' : Cx := { prog := C.prog, w := C.w, A := C.A.deeper env', env := env', base := s.heap, fa := C.fa, mg := C.mg, mb := C.mb, K := K, gval := gval, fns := fns, fz := [], ownCells := true }
  have Fo' : FrameOf P C' room := by
    refine ⟨Fo.prog, Fo.w, Fo.mg, Fo.mb, Fo.top.keeps R.F.keep, noneKeeps Fo.nb R.F.keep, ?_, Fo.hh, ?_, fun b o h => R.F.keep _ _ (Fo.keep _ _ h), rfl, rfl, D.kind⟩
    · have := Fo.depth
      show C.A.depth + 1 + room < recursionLimit
      (first | lia | omega)
    · have := Fo.units
      show C.A.units + 3 + 3 * room + 64 < cLine
      (first | lia | omega)
  have ok' := hok C' rfl rfl rfl rfl Fo' (fun x => rfl) ⟨_, _, rfl, D.cells⟩
  have M' : RelM C' ⟨fun i => args[i]?, σ.objs, []⟩ (bindL env'.kindOf ((K.names.take np).zip cargs) fun _ => none) ad cells := by
    refine ⟨fun n v hv => ?_, R.M.len, fun i l hl => ?_, fun i hi => (nomatch hi), R.M.inj, fun a ha => (nomatch ha), fun _ x hx => ?_⟩
    · obtain ⟨cv, hcv, rv⟩ := (down_RVs R (led := cells) ra).get n v hv
      have hn : n < np := by rw [← hlen]; exact (List.getElem?_eq_some_iff.mp hcv).1
      have hx : K.names[n]? = some (K.names[n]'(by have := D.hnp; (first | lia | omega))) := List.getElem?_eq_getElem _
      have hx' : (K.names.take np)[n]? = some (K.names[n]'(by have := D.hnp; (first | lia | omega))) := by rw [List.getElem?_take_of_lt hn]; exact hx
      refine ⟨_, cv, hx, ?_, rv⟩
      unfold VarAt
      rw [if_neg (D.plain _ (List.mem_of_getElem? hx'))]
      exact bindL_eq _ _ _ _ hloc _ (zip_lookup (nd := List.Sublist.nodup (List.take_sublist _ _) D.nodup) (n := n) hx' hcv)
    · obtain ⟨b, items, o', ha, hd, rs⟩ := R.M.obj i l hl
      exact ⟨b, items, o', ha, ⟨.inr (hd.1.get R), hd.2⟩, down_RVs R rs⟩
    · have hx : x ∈ K.cells := hx
      obtain ⟨c, hc⟩ := mem_lookup (x := x) (l := cellsFrom (s.heap.objs.size + 1) d.scope.names []) (by rw [hcellN]; exact D.cells.at_ x hx)
      obtain ⟨o', ho', hd'⟩ := cells_mem X₁ x c (mem_of_lookup hc)
      exact ⟨c, o', hc, ho', _, hd'⟩
  refine wpAny_mono (soundSs ps C' ok' rfl d.body D.body _ _ { s with heap := h₁, toks := tk } _ _ _ T₁ q.2 ⟨F₁, N₁, M'⟩) (fun fl s' hp => ?_) (fun _ _ x => x.elim)
  obtain ⟨fl', σ₁, m₁, ad₁, news₁, q₁, hf, R₁, l₁, r₁⟩ := hp
  have R₂ := up_Rel R R₁ rfl rfl l₁.pre
  have rest : Rest s s' := Rest.mk'.trans r₁
  cases fl' with
  | ret v =>
    cases fl with
    | ret cv => exact ⟨v, _, m, ad₁, _, q₁, up_RV R hf, R₂, up_Le R l₁.pre, rest⟩
    | _ => cases hf
  | next =>
    cases fl with
    | next => exact ⟨.none, _, m, ad₁, _, q₁, .none, R₂, up_Le R l₁.pre, rest⟩
    | _ => cases hf

theorem intsRV {base : Heap} {fa : FA} {ad : List Addr} {news : Led} : ∀ {vs : List Value} {ns : List Int}, IntsAre vs ns → RVs base fa ad news (ns.map .int) vs
  | _, _, .nil => .nil
  | _, _, .cons n t h => .cons _ _ _ _ (.int n t) (intsRV h)

theorem law_core {prog : Program} {w : World} {p : Program} {loose : List Str} {mean : ExcName → Option Value} {mg mb : Str → Option Value} {h₀ : Heap} {env : Env} {L l : Addr} {x₀ : Str} {vs : List Value} {ns : List Int} {m₀ : Str → Option Value} {cells : Led}
    {s : Shared} {Q : Flow → Shared → Prop} {E : Value → Shared → Prop} {body : List Stmt} {K : Keys} {gval : Nat → Option AV} {fns : Fns} {fa : FA}
    (T : Top p loose mean mg mb h₀) (nb : NoneBooked h₀) (F : Fr h₀ L s.heap m₀) (N : News h₀ L s.heap cells) (hL : h₀.IsList l vs.toArray) (hI : IntsAre vs ns)
    (hm : m₀ x₀ = some (.ref l)) (hx : x₀ ∉ K.cells) (hcell : ∀ x ∈ K.cells, ∃ c o, env.cells.lookup x = some c ∧ (c, o) ∈ cells ∧ isCellObj o)
    (hn0 : K.names[0]? = some x₀) (hcs : env.scope.kind = .function) (heL : env.locals = L) (heg : env.globals = mainGlobals) (heb : env.builtins = builtinsNs) (hfa : fa.top = h₀)
    (hok : ∀ C : Cx, C.K = K → C.gval = gval → C.fns = fns → C.fa = fa → C.env = env → FrameOf ⟨prog, w, p, loose, mean, mg, mb⟩ C 8 → CxOK C)
    (run : ∀ C : Cx, CxOK C → C.prog = prog → C.w = w → C.A = callerA.deeper env → C.env = env → C.K = K → C.gval = gval → C.fns = fns → C.ownCells = true → Rel C ⟨fun i => if i = 0 then some (.lst 0) else none, [ns.map .int], []⟩ s.heap m₀ [l] cells → Wp C (execs body env) (PostS C (fun fl _ => fl = .ret (.bool true)) s [l] cells) s)
    (hQ : ∀ h' tk m', Fr h₀ L h' m' → Q (.ret (.bool true)) { s with heap := h', toks := tk }) :
    wpAny (model prog w) (callerA.deeper env) (execs body env) Q E s := by
  subst heL
  let C : Cx := { prog := prog, w := w, A := callerA.deeper env, env := env, base := h₀, fa := fa, mg := mg, mb := mb, K := K, gval := gval, fns := fns, fz := [], ownCells := true }
  have Fo : FrameOf ⟨prog, w, p, loose, mean, mg, mb⟩ C 8 := by
    refine ⟨rfl, rfl, rfl, rfl, T, nb, ?_, rfl, ?_, fun b o h => by subst hfa; exact h, heg, heb, hcs⟩
    · show callerA.depth + 1 + 8 < recursionLimit
      decide
    · show callerA.units + 3 + 3 * 8 + 64 < cLine
      decide
  have ok := hok C rfl rfl rfl rfl rfl Fo
  have M : RelM C ⟨fun i => if i = 0 then some (.lst 0) else none, [ns.map .int], []⟩ m₀ [l] cells := by
    refine ⟨fun n v hv => ?_, rfl, fun i k hk => ?_, (fun i hi => nomatch hi), fun i j a hi hj => ?_, fun a ha => (nomatch ha), fun _ => hcell⟩
    · simp only at hv
      split at hv
      · rename_i hn
        cases hv
        subst hn
        exact ⟨x₀, .ref l, hn0, by unfold VarAt; rw [if_neg hx]; exact hm, .lst 0 l rfl⟩
      · cases hv
    · have : i = 0 := by
        have := (List.getElem?_eq_some_iff.mp hk).1
        simp at this
        omega
      subst this
      simp only [List.getElem?_cons_zero, Option.some.injEq] at hk
      subst hk
      obtain ⟨o, ho, hc, n, hd⟩ := hL
      exact ⟨l, vs, o, rfl, ⟨.inr ho, hc, n, hd⟩, intsRV hI⟩
    · have h1 := (List.getElem?_eq_some_iff.mp hi).1
      have h2 := (List.getElem?_eq_some_iff.mp hj).1
      simp at h1 h2
      omega
  refine wpAny_mono (run C ok rfl rfl rfl rfl rfl rfl rfl rfl ⟨F, N, M⟩) (fun f s' hp => ?_) (fun _ _ x => x.elim)
  obtain ⟨fl, σ', m', ad', news', rfl, hf, R', _, ⟨h', tk, rfl⟩⟩ := hp
  cases f with
  | ret cv => cases hf; exact hQ h' tk m' R'.F
  | _ => cases hf
theorem first63 {C : Cx} {cap : Int} {σ : St} {s : Shared} {m : Str → Option Value} {ad : List Addr} {news : Led} {Q : Fl → St → Prop} (ok : CxOK C) (hoc : C.ownCells = true) {x₀ : Str} {kk : Nat} {p₁ p₂ p₃ p₄ p₅ pos : Pos} {body : List Stmt} {ps : PSs} (hn0 : C.K.names[0]? = some x₀)
    (hb : mSs C.K ps body = true) (q : wpSs C.gval C.fns (.cons (.assign (.name 0) (.slTo (.loc 0) (.const (.int cap)))) ps) σ Q) (R : Rel C σ s.heap m ad news) :
    Wp C (execs (.Assign [.Name x₀ p₁] (.Subscript (.Name x₀ p₂) (.Slice none (some (.Constant (.int cap) kk p₃)) none p₄) p₅) pos :: body) C.env) (PostS C Q s ad news) s := by
  obtain ⟨v, hv, k, hk, q⟩ := q
  cases hk
  obtain ⟨x', cv, g1, g2, g3⟩ := R.M.loc 0 v hv
  rw [hn0] at g1
  cases g1
  have hx := List.mem_of_getElem? hn0
  refine wpAny_execs_cons (wpAny_Assign_Name (Subscript_ (wpAny_Name (load_sound ok hx R g2 (wpAny_Slice (evalPart_none_step (evalPart_some_step (wpAny_Constant_int (evalPart_none_step ?_)))))) (ok.locs x₀ hx).1)) rfl)
  refine wpAny_mono (wpAny_toks (slice_sound (value := none) (s := { s with toks := s.toks + 1 }) R g3 .none (.int _ _) q)) (fun cu s₁ hp => ?_) fun _ _ x => x.2
  obtain ⟨ht, u, σ₁, m₁, ad₁, news₁, q₁, ru, R₁, l₁, r₁⟩ := hp
  have T₁ : 0 < s₁.toks := Nat.lt_of_lt_of_le (Nat.succ_pos _) ht
  refine withT (C := C) T₁ (store_sound ok hn0 (fun _ => hoc) R₁ ru fun h' tk m' news' R' l' T' => ?_)
  refine wpAny_mono (soundSs ps C ok hoc body hb _ _ { s₁ with heap := h', toks := tk } _ _ _ T' q₁ R') (fun _ _ x => x.up (l₁.trans l') ?_) fun _ _ x => x
  exact (Rest.toks.trans r₁).trans Rest.mk'
theorem law_start63 {cap : Int} {prog : Program} {w : World} {p : Program} {loose : List Str} {mean : ExcName → Option Value} {mg mb : Str → Option Value} {h₀ : Heap} {env : Env} {L l : Addr} {x₀ : Str} {vs : List Value} {ns : List Int} {m₀ : Str → Option Value} {cells : Led}
    {s : Shared} {Q : Flow → Shared → Prop} {E : Value → Shared → Prop} {body : List Stmt} {kk : Nat} {p₁ p₂ p₃ p₄ p₅ pos : Pos} {K : Keys} {ps : PSs} {gval : Nat → Option AV} {fns : Fns} {fa : FA}
    (T : Top p loose mean mg mb h₀) (nb : NoneBooked h₀) (F : Fr h₀ L s.heap m₀) (N : News h₀ L s.heap cells) (hL : h₀.IsList l vs.toArray) (hI : IntsAre vs ns)
    (hm : m₀ x₀ = some (.ref l)) (hx : x₀ ∉ K.cells) (hcell : ∀ x ∈ K.cells, ∃ c o, env.cells.lookup x = some c ∧ (c, o) ∈ cells ∧ isCellObj o)
    (hb : mSs K ps body = true) (hn0 : K.names[0]? = some x₀) (hcs : env.scope.kind = .function) (heL : env.locals = L) (heg : env.globals = mainGlobals) (heb : env.builtins = builtinsNs) (hfa : fa.top = h₀)
    (hok : ∀ C : Cx, C.K = K → C.gval = gval → C.fns = fns → C.fa = fa → C.env = env → FrameOf ⟨prog, w, p, loose, mean, mg, mb⟩ C 8 → CxOK C)
    (q : wpSs gval fns (.cons (.assign (.name 0) (.slTo (.loc 0) (.const (.int cap)))) ps) ⟨fun i => if i = 0 then some (.lst 0) else none, [ns.map .int], []⟩ fun fl _ => fl = .ret (.bool true))
    (hQ : ∀ h' tk m', Fr h₀ L h' m' → Q (.ret (.bool true)) { s with heap := h', toks := tk }) :
    wpAny (model prog w) (callerA.deeper env) (execs (.Assign [.Name x₀ p₁] (.Subscript (.Name x₀ p₂) (.Slice none (some (.Constant (.int cap) kk p₃)) none p₄) p₅) pos :: body) env) Q E s := by
  refine law_core T nb F N hL hI hm hx hcell hn0 hcs heL heg heb hfa hok (fun C ok e1 e2 e3 e4 e5 e6 e7 e8 R => ?_) hQ
  subst e4 e5 e6 e7
  exact first63 ok e8 hn0 hb q R

noncomputable def faOf (mg : Str → Option Value) (h : Heap) (names : List Str) : FA := ⟨fun k => match mg (names.getD k "") with | some (.ref a) => a | _ => 0, h⟩

theorem fa_at {p : Program} {loose : List Str} {mean : ExcName → Option Value} {mg mb : Str → Option Value} {h : Heap} (T : Top p loose mean mg mb h) {d : DefRec} (hd : d ∈ recsOf p) {names : List Str} {k : Nat} (hn : names[k]? = some d.name) :
    mg d.name = some (.ref ((faOf mg h names).addr k)) ∧ ∃ o fd, h.get? ((faOf mg h names).addr k) = some o ∧ o.data = .func fd := by
  obtain ⟨a, o, pm, code, doc, h1, h2, h3, h4⟩ := T.fn d hd
  have e : (faOf mg h names).addr k = a := by
    simp only [faOf, List.getD, hn, Option.getD_some, h1]
  rw [e]
  exact ⟨h1, o, _, h2, h3⟩

theorem nb_of {h : Heap} (e : h.get? cStatics = some { cls := .none, data := .dict #[] }) : NoneBooked h := ⟨fun _ => none, ⟨_, #[], 0, e, rfl, fun _ he => by simp at he, fun _ => rfl⟩, rfl⟩
theorem glob_bi {p : Program} {loose : List Str} {mean : ExcName → Option Value} {mg mb : Str → Option Value} {h : Heap} (T : Top p loose mean mg mb h) {x : Str} {v : Value} (hv : bootBuiltins x = some v)
    (h1 : x ∉ startupNames) (h2 : x ∉ loose) (h3 : x ∉ (recsOf p).map (·.name)) (h4 : x ∉ (litsOf p).map (·.1)) (h4c : x ∉ (clssOf p loose).map (·.name)) (hn : x ≠ "__name__") : mg x = none ∧ mb x = some v :=
  ⟨T.free x h1 h2 h3 h4 h4c, (T.builtins x hn).trans hv⟩
end Mine
namespace Mine
open PySem PySem.W PySem.Float64

section
variable {g : Nat → Option AV} {fns : Fns} {σ : St} {Q : AV → St → Prop} {P : Fl → St → Prop} {B : Bool → Prop}

theorem loc_set_eq {n : Nat} {v : AV} : (σ.set n v).loc n = some v := by simp [St.set, upd]
theorem loc_set_ne {n k : Nat} {v : AV} {o : Option AV} (hne : n ≠ k) (h : σ.loc n = o) : (σ.set k v).loc n = o := by simp [St.set, upd, hne, h]
theorem loc_alloc {n : Nat} {l : List AV} {o : Option AV} (h : σ.loc n = o) : (σ.alloc l).loc n = o := h
theorem objs_set {n : Nat} {v : AV} {o : List (List AV)} (h : σ.objs = o) : (σ.set n v).objs = o := h
theorem objs_alloc {l : List AV} {o : List (List AV)} (h : σ.objs = o) : (σ.alloc l).objs = o ++ [l] := by simp [St.alloc, h]

theorem i_const {v : AV} (h : Q v σ) : wpE g fns (.const v) σ Q := h
theorem i_loc {n : Nat} {v : AV} (e : σ.loc n = some v) (h : Q v σ) : wpE g fns (.loc n) σ Q := ⟨v, e, h⟩
theorem i_glob {n : Nat} {v : AV} (e : g n = some v) (h : Q v σ) : wpE g fns (.glob n) σ Q := ⟨v, e, h⟩
theorem i_bin {op : Operator} {l r : PE} (h : wpE g fns l σ fun a σ₁ => wpE g fns r σ₁ fun b σ₂ => binL op a b σ₂ Q) : wpE g fns (.bin op l r) σ Q := h
theorem i_neg {e : PE} (h : wpE g fns e σ fun v σ₁ => ∃ i, v = .int i ∧ Q (.int (-i)) σ₁) : wpE g fns (.neg e) σ Q := h
theorem i_not {e : PE} (h : wpE g fns e σ fun v σ₁ => truthW v σ₁ fun b => Q (.bool (!b)) σ₁) : wpE g fns (.not e) σ Q := h
theorem i_cmp {op : CmpOp} {l r : PE} (h : wpE g fns l σ fun a σ₁ => wpE g fns r σ₁ fun b σ₂ => cmpL op a b σ₂ fun c => Q (.bool c) σ₂) : wpE g fns (.cmp op l r) σ Q := h
theorem i_bools {isAnd : Bool} {e : PE} {es : PEs} (h : wpE g fns e σ fun v σ₁ => wpBr g fns isAnd es v σ₁ Q) : wpE g fns (.bools isAnd (.cons e es)) σ Q := h
theorem i_br_nil {isAnd : Bool} {v : AV} (h : Q v σ) : wpBr g fns isAnd .nil v σ Q := h
theorem i_and {b : Bool} {e : PE} {es : PEs} (h : b = true → wpE g fns e σ fun u σ₁ => wpBr g fns true es u σ₁ Q) (h' : b = false → Q (.bool b) σ) : wpBr g fns true (.cons e es) (.bool b) σ Q := ⟨h, h'⟩
theorem i_or {b : Bool} {e : PE} {es : PEs} (h : b = false → wpE g fns e σ fun u σ₁ => wpBr g fns false es u σ₁ Q) (h' : b = true → Q (.bool b) σ) : wpBr g fns false (.cons e es) (.bool b) σ Q := ⟨h, h'⟩
theorem i_ite {c a b : PE} (h : wpE g fns c σ fun v σ₁ => truthW v σ₁ fun t => (t = true → wpE g fns a σ₁ Q) ∧ (t = false → wpE g fns b σ₁ Q)) : wpE g fns (.ite c a b) σ Q := h
theorem i_call {f : PE} {args : PEs} (h : wpE g fns f σ fun fv σ₁ => fv.callable = true ∧ wpEs g fns args σ₁ fun vs σ₂ => callW fns fv vs σ₂ Q) : wpE g fns (.call f args) σ Q := h
theorem i_sub {e i : PE} (h : wpE g fns e σ fun o σ₁ => wpE g fns i σ₁ fun v σ₂ => subW o v σ₂ Q) : wpE g fns (.sub e i) σ Q := h
theorem i_slTo {e hi : PE} (h : wpE g fns e σ fun o σ₁ => wpE g fns hi σ₁ fun h σ₂ => ∃ k, h = .int k ∧ sliceW o none (some k) σ₂ Q) : wpE g fns (.slTo e hi) σ Q := h
theorem i_slFrom {e lo : PE} (h : wpE g fns e σ fun o σ₁ => wpE g fns lo σ₁ fun l σ₂ => ∃ k, l = .int k ∧ sliceW o (some k) none σ₂ Q) : wpE g fns (.slFrom e lo) σ Q := h
theorem i_tuple {es : PEs} (h : wpEs g fns es σ fun vs σ₁ => vs.length ≤ sizeLine ∧ Q (.tup vs) σ₁) : wpE g fns (.tuple es) σ Q := h
theorem l_new {o : List (List AV)} {vs : List AV} {R : Nat → Prop} (ho : σ.objs = o) (hz : vs.length ≤ sizeLine) (h : R o.length) : vs.length ≤ sizeLine ∧ ∃ n, σ.objs.length = n ∧ R n := ⟨hz, _, by rw [ho], h⟩
theorem i_list {es : PEs} (h : wpEs g fns es σ fun vs σ₁ => vs.length ≤ sizeLine ∧ ∃ n, σ₁.objs.length = n ∧ Q (.lst n) (σ₁.alloc vs)) : wpE g fns (.list es) σ Q := h
theorem i_es_nil {R : List AV → St → Prop} (h : R [] σ) : wpEs g fns .nil σ R := h
theorem i_es_cons {e : PE} {es : PEs} {R : List AV → St → Prop} (h : wpE g fns e σ fun v σ₁ => wpEs g fns es σ₁ fun vs σ₂ => R (v :: vs) σ₂) : wpEs g fns (.cons e es) σ R := h
theorem i_truth {b : Bool} (h : B b) : truthW (.bool b) σ B := h

theorem i_nil (h : P .next σ) : wpSs g fns .nil σ P := h
theorem i_assign {n : Nat} {e : PE} {ss : PSs} (h : wpE g fns e σ fun v σ₁ => wpSs g fns ss (σ₁.set n v) P) : wpSs g fns (.cons (.assign (.name n) e) ss) σ P := h
theorem i_ret {e : PE} {ss : PSs} (h : wpE g fns e σ fun v σ₁ => P (.ret v) σ₁) : wpSs g fns (.cons (.ret e) ss) σ P := h
theorem i_if {c : PE} {a b ss : PSs} (h : wpE g fns c σ fun v σ₁ => truthW v σ₁ fun t => (t = true → wpSs g fns a σ₁ fun fl σ₂ => match fl with | .next => wpSs g fns ss σ₂ P | .ret v => P (.ret v) σ₂) ∧
    (t = false → wpSs g fns b σ₁ fun fl σ₂ => match fl with | .next => wpSs g fns ss σ₂ P | .ret v => P (.ret v) σ₂)) : wpSs g fns (.cons (.ifs c a b) ss) σ P := h
theorem i_assignT {ns : List Nat} {e : PE} {ss : PSs} (h : wpE g fns e σ fun v σ₁ => partsW (some ns.length) v σ₁.objs fun vs => wpSs g fns ss (setAll σ₁ ns vs) P) : wpSs g fns (.cons (.assign (.tup ns) e) ss) σ P := by
  show wpE g fns e σ fun v σ₁ => bindW (.tup ns) v σ₁ fun σ₂ => wpSs g fns ss σ₂ P
  exact h
theorem i_for {t : Tgt} {it : PE} {body ss : PSs} (h : wpE g fns it σ fun v σ₁ => itemsW v σ₁ fun items => ∃ J : Nat → St → Prop, J 0 σ₁ ∧
      (∀ i u σ₂, items[i]? = some u → J i σ₂ → bindW t u { σ₂ with own := frozen v σ₂.own } fun σ₂' => wpSs g fns body σ₂' fun fl σ₃ => match fl with
        | .next => J (i + 1) { σ₃ with own := thawed v σ₂.own σ₃.own } | .ret w => P (.ret w) { σ₃ with own := thawed v σ₂.own σ₃.own }) ∧ (∀ σ₂, J items.length σ₂ → wpSs g fns ss σ₂ P)) : wpSs g fns (.cons (.for_ t it body) ss) σ P := h
theorem b_name {n : Nat} {v : AV} {K : St → Prop} (h : K (σ.set n v)) : bindW (.name n) v σ K := h
theorem b_tup {ns : List Nat} {l : List AV} {K : St → Prop} (hl : l.length = ns.length) (h : K (setAll σ ns l)) : bindW (.tup ns) (.tup l) σ K := ⟨hl, h⟩
theorem comp_fm {turn : AV → List (List AV) → (Option AV → List (List AV) → Prop) → Prop} {n : Nat} (r : AV → Option AV) : ∀ (items : List AV) (objs : List (List AV)) (Qf : List (List AV) → Prop),
    (∀ u ∈ items, ∀ objs K, K (r u) objs → turn u objs K) → n < objs.length → Qf (objs.set n (objs.getD n [] ++ items.filterMap r)) → compL turn n items objs Qf
  | [], objs, Qf, _, hn, h => by
    show Qf objs
    simp only [List.filterMap_nil, List.append_nil] at h
    have e : objs.set n (objs.getD n []) = objs := by simp [hn]
    rw [e] at h
    exact h
  | u :: us, objs, Qf, ht, hn, h => by
    refine ht u (.head _) objs _ ?_
    cases hr : r u with
    | none =>
      simp only [List.filterMap_cons, hr] at h
      exact comp_fm r us objs Qf (fun v hv => ht v (.tail _ hv)) hn h
    | some w =>
      simp only [List.filterMap_cons, hr] at h
      refine comp_fm r us _ Qf (fun v hv => ht v (.tail _ hv)) (by simp [appendAt, hn]) ?_
      have e : (appendAt objs n w).set n ((appendAt objs n w).getD n [] ++ us.filterMap r) = objs.set n (objs.getD n [] ++ w :: us.filterMap r) := by
        simp [appendAt, hn, List.getD, List.append_assoc]
      rw [e]
      exact h
noncomputable def compRest (turn : AV → List (List AV) → (Option AV → List (List AV) → Prop) → Prop) (σ : St) (items : List AV) (Q : AV → St → Prop) : Prop :=
  items.length ≤ sizeLine ∧ ∃ n, σ.objs.length = n ∧ compL turn n items (σ.objs ++ [[]]) fun objs => Q (.lst n) ⟨σ.loc, objs, n :: σ.own⟩
theorem i_comp {elt iter : PE} {o : Option Nat} {caps gl : List Nat} {ifs : PEs} (h : wpE g fns iter σ fun v σ₁ => itemsW v σ₁ fun items => compRest (compTurnW g σ₁.loc elt o caps gl ifs) σ₁ items Q) : wpE g fns (.comp elt o caps gl iter ifs) σ Q := h
theorem l_comp {turn : AV → List (List AV) → (Option AV → List (List AV) → Prop) → Prop} {os : List (List AV)} {items : List AV} (r : AV → Option AV) (ho : σ.objs = os) (hz : items.length ≤ sizeLine)
    (ht : ∀ u ∈ items, ∀ objs K, K (r u) objs → turn u objs K) (h : Q (.lst os.length) (σ.alloc (items.filterMap r))) :
    compRest turn σ items Q := by
  subst ho
  refine ⟨hz, _, rfl, comp_fm r items _ _ ht (by simp) ?_⟩
  have e : (σ.objs ++ [[]]).set σ.objs.length ((σ.objs ++ [[]]).getD σ.objs.length [] ++ items.filterMap r) = σ.objs ++ [items.filterMap r] := by
    simp [List.getD]
  rw [e]
  exact h
theorem t_lst {j : Nat} {os : List (List AV)} {l : List AV} {K : List AV → Prop} (ho : σ.objs = os) (hj : os[j]? = some l) (h : K l) : itemsW (.lst j) σ K := by
  subst ho
  exact ⟨l, hj, h⟩
theorem rng_len (a b c : Int) : (rngItems a b c).length = (Builtin.Range.rangeSize a b c).toNat := by simp [rngItems]
theorem rng_get {a b c : Int} {i : Nat} {u : AV} (h : (rngItems a b c)[i]? = some u) : i < (Builtin.Range.rangeSize a b c).toNat ∧ u = .int (a + (i : Int) * c) := by
  have hi := (List.getElem?_eq_some_iff.mp h).1
  rw [rng_len] at hi
  refine ⟨hi, ?_⟩
  simp only [rngItems, List.getElem?_map, List.getElem?_range hi, Option.map_some, Option.some.injEq] at h
  exact h.symm

theorem o_addI {x y : Int} (h : Q (.int (x + y)) σ) : binL .Add (.int x) (.int y) σ Q := h
theorem o_subI {x y : Int} (h : Q (.int (x - y)) σ) : binL .Sub (.int x) (.int y) σ Q := h
theorem o_mulI {x y : Int} (hm : IntMulOk x y) (h : Q (.int (x * y)) σ) : binL .Mult (.int x) (.int y) σ Q := ⟨hm, h⟩
theorem o_fdivI {x y : Int} (h0 : y ≠ 0) (h1 : y.natAbs.log2 < 9000) (h : Q (.int (x.fdiv y)) σ) : binL .FloorDiv (.int x) (.int y) σ Q := ⟨⟨h0, h1⟩, h⟩
theorem o_modI {x y : Int} (h0 : y ≠ 0) (h : Q (.int (x.fmod y)) σ) : binL .Mod (.int x) (.int y) σ Q := ⟨h0, h⟩
theorem o_powI {x y : Int} (h0 : 0 ≤ y) (h1 : y ≤ 1000000) (h2 : x.natAbs < 2 ^ 64) (h : Q (.int (x ^ y.toNat)) σ) : binL .Pow (.int x) (.int y) σ Q := ⟨⟨h0, h1, h2⟩, h⟩
theorem o_divI {x y : Int} (h0 : y ≠ 0) (h1 : x.natAbs < 2 ^ 1023) (h : Q (.float (divII x y)) σ) : binL .Div (.int x) (.int y) σ Q := ⟨⟨h0, .inl h1⟩, h⟩
theorem o_addF {x y : UInt64} (h : Q (.float (add x y)) σ) : binL .Add (.float x) (.float y) σ Q := h
theorem o_subF {x y : UInt64} (h : Q (.float (sub x y)) σ) : binL .Sub (.float x) (.float y) σ Q := h
theorem o_mulF {x y : UInt64} (h : Q (.float (mul x y)) σ) : binL .Mult (.float x) (.float y) σ Q := h
theorem o_divF {x y : UInt64} (h0 : isZero y = false) (h : Q (.float (div x y)) σ) : binL .Div (.float x) (.float y) σ Q := ⟨h0, h⟩
theorem o_modF {x y : UInt64} (h0 : isZero y = false) (h : Q (.float (divmod x y).2) σ) : binL .Mod (.float x) (.float y) σ Q := ⟨h0, h⟩
theorem o_addL {i j : Nat} {o : List (List AV)} {l k : List AV} (ho : σ.objs = o) (hi : o[i]? = some l) (hj : o[j]? = some k) (hz : l.length + k.length ≤ sizeLine) (h : Q (.lst o.length) (σ.alloc (l ++ k))) : binL .Add (.lst i) (.lst j) σ Q := by
  subst ho
  exact ⟨l, k, hi, hj, hz, h⟩
theorem c_int {op : CmpOp} {x y : Int} (h0 : isOrd op = true) (h : B (icmp op x y)) : cmpL op (.int x) (.int y) σ B := ⟨h0, h⟩
theorem c_flt {op : CmpOp} {x y : UInt64} (h0 : isOrd op = true) (h : B (fcmp op (cmp x y))) : cmpL op (.float x) (.float y) σ B := ⟨h0, h⟩
theorem c_ne {i j : Nat} {o : List (List AV)} {l k : List AV} (ho : σ.objs = o) (hi : o[i]? = some l) (hj : o[j]? = some k) (he : eqAll (eqNest o) l k) (h : B false) : cmpL .NotEq (.lst i) (.lst j) σ B := by
  subst ho
  exact ⟨l, k, ⟨hi, hj⟩, true, .inl ⟨rfl, he⟩, .inr ⟨rfl, h⟩⟩
theorem c_eq {i j : Nat} {o : List (List AV)} {l k : List AV} (ho : σ.objs = o) (hi : o[i]? = some l) (hj : o[j]? = some k) (he : eqAll (eqNest o) l k) (h : B true) : cmpL .Eq (.lst i) (.lst j) σ B := by
  subst ho
  exact ⟨l, k, ⟨hi, hj⟩, true, .inl ⟨rfl, he⟩, .inl ⟨rfl, h⟩⟩
theorem c_neLen {i j : Nat} {o : List (List AV)} {l k : List AV} (ho : σ.objs = o) (hi : o[i]? = some l) (hj : o[j]? = some k) (he : l.length ≠ k.length) (h : B true) : cmpL .NotEq (.lst i) (.lst j) σ B := by
  subst ho
  exact ⟨l, k, ⟨hi, hj⟩, false, .inr ⟨rfl, he⟩, .inr ⟨rfl, h⟩⟩
theorem c_eqLen {i j : Nat} {o : List (List AV)} {l k : List AV} (ho : σ.objs = o) (hi : o[i]? = some l) (hj : o[j]? = some k) (he : l.length ≠ k.length) (h : B false) : cmpL .Eq (.lst i) (.lst j) σ B := by
  subst ho
  exact ⟨l, k, ⟨hi, hj⟩, false, .inr ⟨rfl, he⟩, .inl ⟨rfl, h⟩⟩
theorem s_item {j : Nat} {k : Int} {o : List (List AV)} {l : List AV} {v : AV} (ho : σ.objs = o) (hj : o[j]? = some l) (h0 : 0 ≤ k) (h1 : k < 2 ^ 63) (hv : l[k.toNat]? = some v) (h : Q v σ) : subW (.lst j) (.int k) σ Q := by
  subst ho
  exact ⟨l, v, hj, .inl ⟨h0, h1, hv⟩, h⟩
theorem s_last {j : Nat} {o : List (List AV)} {l : List AV} {v : AV} (ho : σ.objs = o) (hj : o[j]? = some l) (hv : l.getLast? = some v) (h : Q v σ) : subW (.lst j) (.int (-1)) σ Q := by
  subst ho
  exact ⟨l, v, hj, .inr ⟨rfl, hv⟩, h⟩
theorem s_slice {j : Nat} {lo hi : Option Int} {o : List (List AV)} {l : List AV} (ho : σ.objs = o) (hj : o[j]? = some l) (hz : l.length ≤ sizeLine) (h : Q (.lst o.length) (σ.alloc (pick l lo hi))) : sliceW (.lst j) lo hi σ Q := by
  subst ho
  exact ⟨l, hj, hz, h⟩
theorem k_fn {k : Nat} {args : List AV} (h : fns k args σ.objs (fun v objs => Q v { σ with objs := objs })) : callW fns (.fn k) args σ Q := h
theorem k_len {i : Nat} {o : List (List AV)} {l : List AV} (ho : σ.objs = o) (hi : o[i]? = some l) (hz : l.length < 2 ^ 40) (h : Q (.int l.length) σ) : callW fns (.bi .len) [.lst i] σ Q := by
  subst ho
  exact ⟨l, hi, hz, h⟩
theorem k_range1 {b : Int} (h : Q (.rng 0 b 1) σ) : callW fns (.typ .range) [.int b] σ Q := h
theorem k_range2 {a b : Int} (h : Q (.rng a b 1) σ) : callW fns (.typ .range) [.int a, .int b] σ Q := h
theorem k_range3 {a b c : Int} (h0 : c ≠ 0) (h1 : c.natAbs.log2 < 9000) (h : Q (.rng a b c) σ) : callW fns (.typ .range) [.int a, .int b, .int c] σ Q := ⟨⟨h0, h1⟩, h⟩
theorem t_rng {a b c : Int} {K : List AV → Prop} (h0 : Builtin.Range.small a b c = true) (h1 : 0 < c) (h : K (rngItems a b c)) : itemsW (.rng a b c) σ K := ⟨⟨h0, h1⟩, h⟩
end
end Mine
namespace Mine
open PySem PySem.Float64


noncomputable def Fi (x : UInt64) : Prop := ∃ a m e, decode x = .fin a m e
noncomputable def Rep (Z : Nat) : Prop := ∃ t, t < infMag ∧ V t = Z

theorem V_inj {t t' : Nat} (h : V t = V t') : t = t' := by
  rcases Nat.lt_trichotomy t t' with h1 | h1 | h1
  · have := V_lt h1; omega
  · exact h1
  · have := V_lt h1; omega

theorem rep_of {q k : Nat} (hq : q ≤ 2 ^ 53) (hk : k ≤ 2000) : Rep (q * 2 ^ k) := by
  induction k generalizing q with
  | zero =>
    refine ⟨q, ?_, ?_⟩
    · have : infMag = 2047 * 2 ^ 52 := rfl
      (first | lia | omega)
    · have := V_at (k := 0) (q := q) hq (.inr rfl)
      simpa using this
  | succ k ih =>
    by_cases h : 2 ^ 52 ≤ q
    · refine ⟨(k + 1) * 2 ^ 52 + q, ?_, V_at hq (.inl h)⟩
      have : infMag = 2047 * 2 ^ 52 := rfl
      (first | lia | omega)
    · have := ih (q := 2 * q) (by (first | lia | omega)) (by (first | lia | omega))
      rw [Nat.pow_succ, ← Nat.mul_assoc, Nat.mul_right_comm]
      rw [Nat.mul_comm q 2]
      exact this

theorem fi_pack {s : Bool} {t : Nat} (h : t < infMag) : Fi (pack s t) ∧ val (pack s t) = sgn s (V t) := by
  obtain ⟨m, e, hd, _⟩ := decode_pack s h
  exact ⟨⟨s, m, e, hd⟩, val_pack s h⟩

theorem right_exact {r : UInt64} {neg : Bool} {W D Z : Nat} (h : Right r neg W D) (hD : 0 < D) (hW : W = D * Z) (hz : Rep Z) : Fi r ∧ val r = sgn neg Z := by
  obtain ⟨t, rfl, ht, hov, hn⟩ := h
  obtain ⟨t₀, ht₀, hV⟩ := hz
  have hlt : t < infMag := by
    rcases Nat.lt_or_eq_of_le ht with h | h
    · exact h
    · exfalso
      have h1 := hov.mp h
      have hB : V t₀ ≤ V (infMag - 1) := V_mono (by (first | lia | omega))
      have hA : V (infMag - 1) = (2 ^ 53 - 1) * 2 ^ 2045 := by
        have e : infMag - 1 = 2045 * 2 ^ 52 + (2 ^ 53 - 1) := by unfold infMag; (first | lia | omega)
        rw [e]
        exact V_at (k := 2045) (q := 2 ^ 53 - 1) (by (first | lia | omega)) (.inl (by (first | lia | omega)))
      rw [hW, ← hV] at h1
      have h2 : D * V t₀ ≤ D * ((2 ^ 53 - 1) * 2 ^ 2045) := Nat.mul_le_mul_left D (by (first | lia | omega))
      have h3 : (0 : Nat) < 2 ^ 2045 := Nat.two_pow_pos _
      generalize (2 : Nat) ^ 2045 = Y at *
      have h4 : D * ((2 ^ 54 - 1) * Y) = 2 * (D * ((2 ^ 53 - 1) * Y)) + D * Y := by
        have : (2 ^ 54 - 1) * Y = 2 * ((2 ^ 53 - 1) * Y) + Y := by (first | lia | omega)
        rw [this, Nat.mul_add, Nat.mul_left_comm]
      have h5 : 0 < D * Y := Nat.mul_pos hD h3
      (first | lia | omega)
  have hd := (hn hlt t₀).1
  rw [hW, ← hV] at hd
  have e0 : dist (D * V t₀) (D * V t₀) = 0 := by unfold dist; (first | lia | omega)
  rw [e0] at hd
  have e1 : D * V t = D * V t₀ := by unfold dist at hd; (first | lia | omega)
  have e2 : V t = V t₀ := Nat.eq_of_mul_eq_mul_left hD e1
  rw [← hV, ← e2]
  exact fi_pack hlt

theorem sgn_abs (z : Int) : sgn (decide (z < 0)) z.natAbs = z := by
  unfold sgn
  by_cases h : z < 0 <;> simp [h] <;> omega

theorem val_zero (s : Bool) : Fi (zero s) ∧ val (zero s) = 0 := by
  have := fi_pack (s := s) (t := 0) (by unfold infMag; omega)
  refine ⟨this.1, this.2.trans ?_⟩
  rw [V_zero]
  unfold sgn
  cases s <;> rfl

theorem add_exact {x y : UInt64} (hx : Fi x) (hy : Fi y) (hz : Rep (val x + val y).natAbs) : Fi (add x y) ∧ val (add x y) = val x + val y := by
  obtain ⟨a, m, e, hx⟩ := hx
  obtain ⟨b, k, f, hy⟩ := hy
  have h := add_right hx hy
  by_cases h0 : val x + val y = 0
  · rw [h.1 h0, h0]
    exact val_zero _
  · have := right_exact (h.2 h0) Nat.one_pos (by rw [Nat.one_mul]) hz
    rw [sgn_abs] at this
    exact this
theorem sub_exact {x y : UInt64} (hx : Fi x) (hy : Fi y) (hz : Rep (val x - val y).natAbs) : Fi (sub x y) ∧ val (sub x y) = val x - val y := by
  obtain ⟨a, m, e, hx⟩ := hx
  obtain ⟨b, k, f, hy⟩ := hy
  have h := sub_right hx hy
  by_cases h0 : val x - val y = 0
  · rw [h.1 h0, h0]
    exact val_zero _
  · have := right_exact (h.2 h0) Nat.one_pos (by rw [Nat.one_mul]) hz
    rw [sgn_abs] at this
    exact this

theorem sgn_sgn (a b : Bool) (m k : Nat) : sgn (a != b) (m * k) = sgn a m * sgn b k := by
  cases a <;> cases b <;> simp [sgn, Int.neg_mul, Int.mul_neg]
theorem val_sgn {x : UInt64} {a : Bool} {m : Nat} {e : Int} (h : decode x = .fin a m e) : val x = sgn a (val x).natAbs := by
  rw [val_eq h, sgn_natAbs]

noncomputable def TT : Nat := 2 ^ 1074
theorem TT_pos : 0 < TT := Nat.two_pow_pos _
theorem TT_eq (e : Nat) (h : e ≤ 1074) : TT = 2 ^ (1074 - e) * 2 ^ e := by
  unfold TT
  rw [← Nat.pow_add, Nat.sub_add_cancel h]

theorem mul_exact {x y : UInt64} {Z : Int} (hx : Fi x) (hy : Fi y) (hZ : val x * val y = Z * TT) (hz : Rep Z.natAbs) : Fi (mul x y) ∧ val (mul x y) = Z := by
  obtain ⟨a, m, e, hx⟩ := hx
  obtain ⟨b, k, f, hy⟩ := hy
  have h : Right (mul x y) (a != b) ((val x).natAbs * (val y).natAbs) TT := mul_right hx hy
  have e1 : (val x).natAbs * (val y).natAbs = TT * Z.natAbs := by
    rw [← Int.natAbs_mul, hZ, Int.natAbs_mul, Int.natAbs_natCast, Nat.mul_comm]
  have := right_exact h TT_pos e1 hz
  refine ⟨this.1, this.2.trans ?_⟩
  have e2 : sgn (a != b) ((val x).natAbs * (val y).natAbs) = val x * val y := by
    rw [sgn_sgn, ← val_sgn hx, ← val_sgn hy]
  rw [e1, Nat.mul_comm, sgn_mul, hZ] at e2
  have hp : ((TT : Nat) : Int) ≠ 0 := by have := TT_pos; omega
  exact Int.eq_of_mul_eq_mul_right hp e2

structure Is (x : UInt64) (n : Int) (e : Nat) : Prop where
  fi : Fi x
  eq : val x * 2 ^ e = n * TT

theorem pow_pos_int (e : Nat) : (0 : Int) < 2 ^ e := Int.pow_pos (by decide)
theorem Is.inj {x : UInt64} {n m : Int} {e : Nat} (h : Is x n e) (k : Is x m e) : n = m := by
  have := h.eq.symm.trans k.eq
  exact Int.eq_of_mul_eq_mul_right (by have := TT_pos; omega) this
theorem Is.val_eq {x y : UInt64} {n : Int} {e : Nat} (h : Is x n e) (k : Is y n e) : val x = val y := by
  have := h.eq.trans k.eq.symm
  exact Int.eq_of_mul_eq_mul_right (Int.ne_of_gt (pow_pos_int e)) this
theorem Is.up {x : UInt64} {n : Int} {e : Nat} (h : Is x n e) (k : Nat) : Is x (n * 2 ^ k) (e + k) :=
  ⟨h.fi, by rw [Int.pow_add, ← Int.mul_assoc, h.eq, Int.mul_right_comm]⟩
theorem Is.down {x : UInt64} {n : Int} {e k : Nat} (h : Is x (n * 2 ^ k) (e + k)) : Is x n e := by
  refine ⟨h.fi, ?_⟩
  have := h.eq
  rw [Int.pow_add, ← Int.mul_assoc, Int.mul_right_comm n] at this
  exact Int.eq_of_mul_eq_mul_right (Int.ne_of_gt (pow_pos_int k)) this

theorem rep_few {z n : Int} {e : Nat} (h : z * 2 ^ e = n * TT) (hn : n.natAbs ≤ 2 ^ 53) (he : e ≤ 1074) : Rep z.natAbs := by
  have h1 : z = n * 2 ^ (1074 - e) := by
    rw [TT_eq e he] at h
    have : z * 2 ^ e = n * 2 ^ (1074 - e) * 2 ^ e := by
      rw [h, Int.natCast_mul, Int.natCast_pow, Int.natCast_pow, Int.mul_assoc]; rfl
    exact Int.eq_of_mul_eq_mul_right (Int.ne_of_gt (pow_pos_int e)) this
  rw [h1, Int.natAbs_mul, Int.natAbs_pow]
  exact rep_of hn (by omega)

theorem Is.add {x y : UInt64} {n m : Int} {e : Nat} (h : Is x n e) (k : Is y m e) (hn : (n + m).natAbs ≤ 2 ^ 53) (he : e ≤ 1074) : Is (add x y) (n + m) e := by
  have hs : (val x + val y) * 2 ^ e = (n + m) * TT := by rw [Int.add_mul, h.eq, k.eq, Int.add_mul]
  have := add_exact h.fi k.fi (rep_few hs hn he)
  exact ⟨this.1, by rw [this.2]; exact hs⟩
theorem Is.sub {x y : UInt64} {n m : Int} {e : Nat} (h : Is x n e) (k : Is y m e) (hn : (n - m).natAbs ≤ 2 ^ 53) (he : e ≤ 1074) : Is (sub x y) (n - m) e := by
  have hs : (val x - val y) * 2 ^ e = (n - m) * TT := by rw [Int.sub_mul, h.eq, k.eq, Int.sub_mul]
  have := sub_exact h.fi k.fi (rep_few hs hn he)
  exact ⟨this.1, by rw [this.2]; exact hs⟩
theorem Is.mul {x y : UInt64} {n m : Int} {e f : Nat} (h : Is x n e) (k : Is y m f) (hn : (n * m).natAbs ≤ 2 ^ 53) (he : e + f ≤ 1074) : Is (mul x y) (n * m) (e + f) := by
  have hT : (n * m * 2 ^ (1074 - (e + f))) * 2 ^ (e + f) = n * m * TT := by
    rw [TT_eq (e + f) he, Int.natCast_mul, Int.natCast_pow, Int.natCast_pow, Int.mul_assoc]; rfl
  have hZ : val x * val y = (n * m * 2 ^ (1074 - (e + f))) * TT := by
    have h1 : val x * val y * 2 ^ (e + f) = n * m * TT * TT := by
      rw [Int.pow_add]
      calc val x * val y * (2 ^ e * 2 ^ f) = (val x * 2 ^ e) * (val y * 2 ^ f) := by ac_rfl
        _ = n * TT * (m * TT) := by rw [h.eq, k.eq]
        _ = n * m * TT * TT := by ac_rfl
    have h2 : val x * val y * 2 ^ (e + f) = (n * m * 2 ^ (1074 - (e + f)) * TT) * 2 ^ (e + f) := by
      rw [h1, ← hT]; exact Int.mul_right_comm _ _ _
    exact Int.eq_of_mul_eq_mul_right (Int.ne_of_gt (pow_pos_int (e + f))) h2
  have := mul_exact h.fi k.fi hZ (rep_few hT hn he)
  exact ⟨this.1, by rw [this.2]; exact hT⟩

theorem Is.cmp {x y : UInt64} {n m : Int} {e : Nat} (h : Is x n e) (k : Is y m e) : cmp x y = some (compare n m) := by
  obtain ⟨a, m', e', hx⟩ := h.fi
  obtain ⟨b, k', f', hy⟩ := k.fi
  rw [cmp_right hx hy]
  congr 1
  have hp := pow_pos_int e
  have ht : (0 : Int) < TT := by have := TT_pos; omega
  have h1 := h.eq
  have h2 := k.eq
  rcases Int.lt_trichotomy n m with hlt | heq | hgt
  · have : val x < val y := by
      apply Int.lt_of_mul_lt_mul_right (a := 2 ^ e) _ (Int.le_of_lt hp)
      rw [h1, h2]
      exact Int.mul_lt_mul_of_pos_right hlt ht
    rw [Int.compare_eq_lt.mpr hlt, Int.compare_eq_lt.mpr this]
  · subst heq
    have : val x = val y := h.val_eq k
    rw [this]; simp
  · have : val y < val x := by
      apply Int.lt_of_mul_lt_mul_right (a := 2 ^ e) _ (Int.le_of_lt hp)
      rw [h1, h2]
      exact Int.mul_lt_mul_of_pos_right hgt ht
    rw [Int.compare_eq_gt.mpr hgt, Int.compare_eq_gt.mpr this]

theorem Is.quot {p q : Nat} {n e : Nat} {s : Bool} (hq : 0 < q) (h : p * 2 ^ e = n * q) (hn : n ≤ 2 ^ 53) (he : e ≤ 1074) : Is (ofFrac s p q) (sgn s n) e := by
  have hr : Right (ofFrac s p q) s (p * TT) q := ofFrac_right hq (by unfold TT; rfl) hq
  have h1 : p * TT = q * (n * 2 ^ (1074 - e)) := by
    rw [TT_eq e he]
    calc p * (2 ^ (1074 - e) * 2 ^ e) = p * 2 ^ e * 2 ^ (1074 - e) := by ac_rfl
      _ = n * q * 2 ^ (1074 - e) := by rw [h]
      _ = q * (n * 2 ^ (1074 - e)) := by ac_rfl
  have := right_exact hr hq h1 (rep_of hn (by omega))
  refine ⟨this.1, ?_⟩
  rw [this.2, sgn_mul, Int.natCast_pow, Int.mul_assoc, TT_eq e he, Int.natCast_mul, Int.natCast_pow, Int.natCast_pow]; rfl

theorem Is.div {p q n : Int} {e : Nat} (hq : 0 < q) (h : p * 2 ^ e = n * q) (hn : n.natAbs ≤ 2 ^ 53) (he : e ≤ 1074) : Is (ofFrac (decide (p < 0) != decide (q < 0)) p.natAbs q.natAbs) n e := by
  have hs : (decide (p < 0) != decide (q < 0)) = decide (p < 0) := by
    have : ¬ q < 0 := by omega
    simp [this]
  have h1 : p.natAbs * 2 ^ e = n.natAbs * q.natAbs := by
    have := congrArg Int.natAbs h
    rw [Int.natAbs_mul, Int.natAbs_mul, Int.natAbs_pow] at this
    exact this
  have h2 := Is.quot (s := decide (p < 0)) (by omega : 0 < q.natAbs) h1 hn he
  rw [hs]
  have h3 : sgn (decide (p < 0)) n.natAbs = n := by
    have hp := pow_pos_int e
    by_cases hp0 : p < 0
    · have : n < 0 := by
        rcases Int.lt_trichotomy n 0 with h | h0 | hgt
        · exact h
        · rw [h0, Int.zero_mul] at h
          have := Int.mul_neg_of_neg_of_pos hp0 hp
          omega
        · have h4 := Int.mul_pos hgt hq
          have := Int.mul_neg_of_neg_of_pos hp0 hp
          omega
      unfold sgn; simp [hp0]; omega
    · have : 0 ≤ n := by
        rcases Int.lt_trichotomy n 0 with hl | h0 | hgt
        · have h4 := Int.mul_neg_of_neg_of_pos hl hq
          have := Int.mul_nonneg (show 0 ≤ p by omega) (Int.le_of_lt hp)
          omega
        · omega
        · omega
      unfold sgn; simp [hp0]; omega
  rw [h3] at h2
  exact h2

theorem decode_one : decode one = .fin false (2 ^ 52) (-52) := by kernel_rfl
theorem one_is : Fi one ∧ val one = TT := by
  refine ⟨⟨_, _, _, decode_one⟩, ?_⟩
  rw [Float64.val_eq decode_one]
  unfold sgn TT
  simp only [Bool.false_eq_true, if_false]
  have : (-52 + 1074 : Int).toNat = 1022 := by decide
  rw [this, ← Nat.pow_add]
theorem cmp_val {x y : UInt64} (hx : Fi x) (hy : Fi y) : Float64.cmp x y = some (compare (val x) (val y)) := by
  obtain ⟨a, m, e, hx⟩ := hx
  obtain ⟨b, k, f, hy⟩ := hy
  exact cmp_right hx hy
theorem isZero_val {x : UInt64} (hx : Fi x) : isZero x = decide (val x = 0) := by
  obtain ⟨a, m, e, hx⟩ := hx
  have h1 : isZero x = decide (m = 0) := by
    unfold isZero
    rw [hx]
    cases m <;> simp
  rw [h1, Float64.val_eq hx]
  have hp : (0 : Nat) < 2 ^ (e + 1074).toNat := Nat.two_pow_pos _
  by_cases hm : m = 0
  · subst hm
    simp [sgn]
  · have : sgn a (m * 2 ^ (e + 1074).toNat) ≠ 0 := by
      have h2 : 0 < m * 2 ^ (e + 1074).toNat := Nat.mul_pos (by omega) hp
      generalize m * 2 ^ (e + 1074).toNat = z at *
      unfold sgn
      cases a
      · simp only [Bool.false_eq_true, if_false]; omega
      · simp only [if_true]; omega
    simp [hm, this]
theorem Is.of_decode {x : UInt64} {a : Bool} {m : Nat} {ex : Int} (hx : decode x = .fin a m ex) (e : Nat) (he : ex = -(e : Int)) (he' : e ≤ 1074) : Is x (sgn a m) e := by
  refine ⟨⟨a, m, ex, hx⟩, ?_⟩
  have h1 : (ex + 1074).toNat = 1074 - e := by (first | lia | omega)
  rw [Float64.val_eq hx, h1, sgn_mul, Int.natCast_pow, Int.mul_assoc, TT_eq e he', Int.natCast_mul, Int.natCast_pow, Int.natCast_pow]; rfl

theorem right_fi {r : UInt64} {neg : Bool} {W D Z : Nat} (h : Right r neg W D) (hD : 0 < D) (hW : W ≤ D * Z) (hz : Rep Z) : Fi r ∧ (val r).natAbs ≤ Z := by
  obtain ⟨t, rfl, ht, hov, hn⟩ := h
  obtain ⟨t₀, ht₀, hV⟩ := hz
  have hlt : t < infMag := by
    rcases Nat.lt_or_eq_of_le ht with h | h
    · exact h
    · exfalso
      have h1 := hov.mp h
      have hB : V t₀ ≤ V (infMag - 1) := V_mono (by omega)
      have hA : V (infMag - 1) = (2 ^ 53 - 1) * 2 ^ 2045 := by
        have e : infMag - 1 = 2045 * 2 ^ 52 + (2 ^ 53 - 1) := by unfold infMag; omega
        rw [e]
        exact V_at (k := 2045) (q := 2 ^ 53 - 1) (by omega) (.inl (by omega))
      rw [← hV] at hW
      have h2 : D * V t₀ ≤ D * ((2 ^ 53 - 1) * 2 ^ 2045) := Nat.mul_le_mul_left D (by omega)
      have h3 : (0 : Nat) < 2 ^ 2045 := Nat.two_pow_pos _
      generalize (2 : Nat) ^ 2045 = Y at *
      have h4 : D * ((2 ^ 54 - 1) * Y) = 2 * (D * ((2 ^ 53 - 1) * Y)) + D * Y := by
        have : (2 ^ 54 - 1) * Y = 2 * ((2 ^ 53 - 1) * Y) + Y := by omega
        rw [this, Nat.mul_add, Nat.mul_left_comm]
      have h5 : 0 < D * Y := Nat.mul_pos hD h3
      omega
  obtain ⟨h1, h2⟩ := fi_pack (s := neg) hlt
  refine ⟨h1, ?_⟩
  rw [h2, sgn_natAbs]
  have hd := (hn hlt t₀).1
  rw [hV] at hd
  rcases Nat.lt_or_ge Z (V t) with h3 | h3
  · exfalso
    have h4 : D * Z < D * V t := Nat.mul_lt_mul_of_pos_left h3 hD
    unfold dist at hd
    omega
  · exact h3

theorem add_fi {x y : UInt64} {Z : Nat} (hx : Fi x) (hy : Fi y) (hW : (val x + val y).natAbs ≤ Z) (hz : Rep Z) : Fi (add x y) ∧ (val (add x y)).natAbs ≤ Z := by
  obtain ⟨a, m, e, hx⟩ := hx
  obtain ⟨b, k, f, hy⟩ := hy
  have h := add_right hx hy
  by_cases h0 : val x + val y = 0
  · rw [h.1 h0]
    exact ⟨(val_zero _).1, by rw [(val_zero _).2]; exact Nat.zero_le _⟩
  · exact right_fi (h.2 h0) Nat.one_pos (by omega) hz

theorem fi_pack_of {x : UInt64} (hx : Fi x) : ∃ s t, t < infMag ∧ x = pack s t := by
  obtain ⟨a, m, e, hd⟩ := hx
  have hlt := x.toNat_lt
  refine ⟨x.toNat / 2 ^ 63 == 1, x.toNat % 2 ^ 63, ?_, ?_⟩
  · have hi : infMag = 2047 * 2 ^ 52 := rfl
    have hne : x.toNat / 2 ^ 52 % 2048 ≠ 2047 := by
      intro h
      unfold decode at hd
      simp only [h, beq_self_eq_true, if_true] at hd
      split at hd <;> cases hd
    (first | lia | omega)
  · apply UInt64.toNat_inj.mp
    rw [pack_toNat _ (by (first | lia | omega))]
    have : x.toNat / 2 ^ 63 = 0 ∨ x.toNat / 2 ^ 63 = 1 := by (first | lia | omega)
    rcases this with h | h <;> simp [h] <;> (first | lia | omega)
theorem eq_of_val {x y : UInt64} (hx : Fi x) (hy : Fi y) (h : val x = val y) (h0 : val x ≠ 0) : x = y := by
  obtain ⟨s, t, ht, rfl⟩ := fi_pack_of hx
  obtain ⟨s', t', ht', rfl⟩ := fi_pack_of hy
  rw [val_pack _ ht, val_pack _ ht'] at h
  rw [val_pack _ ht] at h0
  have e1 : V t = V t' := by
    have := congrArg Int.natAbs h
    rwa [sgn_natAbs, sgn_natAbs] at this
  have e2 : t = t' := V_inj e1
  subst e2
  have e3 : s = s' := by
    unfold sgn at h h0
    cases s <;> cases s' <;> simp at h h0 ⊢ <;> omega
  rw [e3]
theorem cmp_self {x : UInt64} (hx : Fi x) : Float64.cmp x x = some .eq := by
  rw [cmp_val hx hx]; simp

theorem Is.abs_le {x : UInt64} {n : Int} {e : Nat} (h : Is x n e) (k : Nat) (hn : n.natAbs ≤ k * 2 ^ e) : (val x).natAbs ≤ k * TT := by
  have h1 := congrArg Int.natAbs h.eq
  rw [Int.natAbs_mul, Int.natAbs_mul, Int.natAbs_pow, Int.natAbs_natCast] at h1
  have h2 : n.natAbs * TT ≤ k * 2 ^ e * TT := Nat.mul_le_mul_right _ hn
  have hp : 0 < 2 ^ e := Nat.two_pow_pos e
  refine Nat.le_of_mul_le_mul_right (c := 2 ^ e) ?_ hp
  calc (val x).natAbs * 2 ^ e = n.natAbs * TT := h1
    _ ≤ k * 2 ^ e * TT := h2
    _ = k * TT * 2 ^ e := by ac_rfl
theorem rep_TT {k : Nat} (hk : k ≤ 2 ^ 53) : Rep (k * TT) := rep_of hk (by decide)
end Mine
namespace Mine
open PySem PySem.W PySem.Float64


theorem get_app {α : Type} {o : List α} {l : List α} {i : Nat} {v : α} (h : o[i]? = some v) : (o ++ l)[i]? = some v := by
  rw [List.getElem?_append_left (List.getElem?_eq_some_iff.mp h).1]; exact h
theorem pick_map {α β : Type} (f : α → β) (l : List α) (lo hi : Option Int) : pick (l.map f) lo hi = (pick l lo hi).map f := by
  simp [pick, List.map_drop, List.map_take]
theorem pick_len {α : Type} (l : List α) (lo hi : Option Int) : (pick l lo hi).length ≤ l.length := by
  simp [pick]; omega
theorem get_of {α : Type} (l : List α) {n : Nat} (h : n < l.length) : ∃ a, l[n]? = some a := ⟨l[n], List.getElem?_eq_getElem h⟩
theorem lit_one : (0x3ff0000000000000 : UInt64) = one := by decide +kernel
theorem one_nz : isZero one = false := by decide +kernel
theorem mod_rng (a : Int) {b : Int} (hb : 0 < b) : 0 ≤ a.fmod b ∧ a.fmod b < b := by
  rw [Int.fmod_eq_emod_of_nonneg _ (Int.le_of_lt hb)]
  exact ⟨Int.emod_nonneg _ (Int.ne_of_gt hb), Int.emod_lt_of_pos _ hb⟩
theorem mulOk_l {x y : Int} (h : x.natAbs < 2 ^ 64) : IntMulOk x y := by
  refine IntMulOk.of_left ?_
  unfold Builtin.Int.intBits
  split
  · omega
  · rename_i hx
    have : x.natAbs.log2 < 64 := (Nat.log2_lt (by simpa using hx)).mpr h
    omega
theorem small_fits {n : Int} (h : n.natAbs ≤ 2 ^ 60) : n.natAbs < 2 ^ 1023 := Nat.lt_of_le_of_lt h (Nat.pow_lt_pow_right (by decide) (by decide))
section
open PyProof.Rows PyProof.V
abbrev NamesOk (K : Keys) (names : List (Str × NameKind)) : Prop := ∀ x ∈ K.names, (x == ("__debug__" : Str)) = false ∧ (x ∉ K.cells → names.lookup x = some .local) ∧ (x ∈ K.cells → names.lookup x = some .cell)
theorem topC_names {C : Cx} {K : Keys} {name : Str} {scope : Scope} {L a : Addr} {cd : Value} (h : C.env = envOfC name scope L a cd) (h1 : NamesOk K scope.names) :
    ∀ x ∈ K.names, (x == ("__debug__" : Str)) = false ∧ (x ∉ K.cells → C.env.kindOf x = some .local) ∧ (x ∈ K.cells → C.env.kindOf x = some .cell) := by
  rw [h]; exact h1
theorem topC_globs {C : Cx} {K : Keys} {name : Str} {scope : Scope} {L a : Addr} {cd : Value} (h : C.env = envOfC name scope L a cd) (h1 : ∀ x ∈ K.globs, x ∉ K.far → scope.names.lookup x = some .globalImplicit) :
    ∀ x ∈ K.globs, x ∉ K.far → C.env.kindOf x = some .globalImplicit := by
  rw [h]; exact h1
theorem topC_cells {C : Cx} {K : Keys} {name : Str} {scope : Scope} {L a : Addr} {cd : Value} (h : C.env = envOfC name scope L a cd) (h1 : ∀ x ∈ K.cells, x ∈ (cellsFrom 0 scope.names []).map (·.1)) (h2 : ((cellsFrom 0 scope.names []).map (·.1)).Nodup) : ∃ b names, C.env.cells = cellsFrom b names [] ∧ CellsOk K names :=
  ⟨L + 1, scope.names, by rw [h]; rfl, h1, h2⟩
abbrev TopOk (K : Keys) (names : List (Str × NameKind)) : Prop := NamesOk K names ∧ (∀ x ∈ K.globs, x ∉ K.far → names.lookup x = some .globalImplicit) ∧ (∀ x ∈ K.cells, x ∈ (cellsFrom 0 names []).map (·.1)) ∧ ((cellsFrom 0 names []).map (·.1)).Nodup
theorem top_all {C : Cx} {K : Keys} {name : Str} {scope : Scope} {L a : Addr} {cd : Value} (h : C.env = envOfC name scope L a cd) (d : TopOk K scope.names) :
    (∀ x ∈ K.names, (x == ("__debug__" : Str)) = false ∧ (x ∉ K.cells → C.env.kindOf x = some .local) ∧ (x ∈ K.cells → C.env.kindOf x = some .cell)) ∧ (∀ x ∈ K.globs, x ∉ K.far → C.env.kindOf x = some .globalImplicit) ∧ ∃ b names, C.env.cells = cellsFrom b names [] ∧ CellsOk K names :=
  ⟨topC_names h d.1, topC_globs h d.2.1, topC_cells h d.2.2.1 d.2.2.2⟩
end

end Mine
namespace Mine
open PySem PySem.W PySem.Float64


section
variable {g : Nat → Option AV} {fns : Fns} {σ : St} {Q : AV → St → Prop} {P : Fl → St → Prop} {B : Bool → Prop}
theorem k_min3 {x y z : UInt64} (h : Q (.float (fmin3 x y z)) σ) : callW fns (.bi .min) [.float x, .float y, .float z] σ Q := h
theorem k_max3 {x y z : UInt64} (h : Q (.float (fmax3 x y z)) σ) : callW fns (.bi .max) [.float x, .float y, .float z] σ Q := h





theorem k_sortF {i : Nat} {o : List (List AV)} {xs : List UInt64} (rank : UInt64 → Int) (ho : σ.objs = o) (hi : o[i]? = some (xs.map .float)) (h2 : 2 ≤ xs.length) (hz : xs.length ≤ sizeLine) (hc : ∀ x ∈ xs, ∀ y ∈ xs, (Float64.cmp x y == some .lt) = decide (rank x < rank y))
    (h : ∀ ys : List UInt64, ys.Perm xs → ys.Pairwise (fun x y => rank x ≤ rank y) → Q (.lst o.length) (σ.alloc (ys.map .float))) : callW fns (.bi .sorted) [.lst i] σ Q := by
  subst ho
  exact .inl ⟨xs, rank, hi, ⟨h2, hz⟩, hc, h⟩
theorem k_sortT {i : Nat} {o : List (List AV)} {ts : List (Int × Int × Int)} (ho : σ.objs = o) (hi : o[i]? = some (ts.map triAV)) (h2 : 2 ≤ ts.length) (hz : ts.length ≤ sizeLine) (he : ∀ x ∈ ts, ∀ y ∈ ts, x.1 = y.1 → x = y)
    (h : ∀ us : List (Int × Int × Int), us.Perm ts → us.Pairwise (fun x y => x.1 ≤ y.1) → Q (.lst o.length) (σ.alloc (us.map triAV))) : callW fns (.bi .sorted) [.lst i] σ Q := by
  subst ho
  exact .inr ⟨ts, hi, ⟨h2, hz⟩, he, h⟩
theorem k_sum {i : Nat} {o : List (List AV)} {l : List AV} {ns : List Int} (ho : σ.objs = o) (hi : o[i]? = some l) (hn : intsOf l = some ns) (h : Q (.int ns.sum) σ) : callW fns (.bi .sum) [.lst i] σ Q := by
  subst ho
  exact ⟨l, ns, ⟨hi, hn⟩, h⟩
theorem k_sumR {a b c : Int} (h0 : Builtin.Range.small a b c = true) (h1 : 0 < c) (h : Q (.int (PySem.preSum (fun i => a + (i : Int) * c) (Builtin.Range.rangeSize a b c).toNat)) σ) : callW fns (.bi .sum) [.rng a b c] σ Q := ⟨⟨h0, h1⟩, h⟩
theorem k_isF {x : UInt64} (h : Q (.bool true) σ) : callW fns (.bi .isinstance) [.float x, .typ .float] σ Q := h
theorem s_tup {l : List AV} {k : Int} {v : AV} (h0 : 0 ≤ k) (h1 : k < 2 ^ 63) (hv : l[k.toNat]? = some v) (h : Q v σ) : subW (.tup l) (.int k) σ Q := ⟨v, ⟨h0, h1⟩, hv, h⟩
theorem i_augSub {o i e : PE} {op : Operator} {ss : PSs} (h : wpE g fns o σ fun v σ₁ => ∃ j, v = .lst j ∧ wpE g fns i σ₁ fun u σ₂ => ∃ k l x, (u = .int k ∧ 0 ≤ k ∧ k < 2 ^ 63) ∧ (σ₂.objs[j]? = some l ∧ l[k.toNat]? = some (.int x)) ∧ op = .Add ∧
      wpE g fns e σ₂ fun w σ₃ => ∃ y l', w = .int y ∧ (σ₃.objs[j]? = some l' ∧ j ∈ σ₃.own ∧ k.toNat < l'.length) ∧ wpSs g fns ss { σ₃ with objs := σ₃.objs.set j (l'.set k.toNat (.int (x + y))) } P) : wpSs g fns (.cons (.augSub o i op e) ss) σ P := h
theorem get_last {α : Type} {o : List α} {a : α} : (o ++ [a])[o.length]? = some a := List.getElem?_concat_length ..
theorem get_set {α : Type} {o : List α} {i : Nat} {a b : α} (h : o[i]? = some b) : (o.set i a)[i]? = some a := by
  have := (List.getElem?_eq_some_iff.mp h).1
  simp [this]
theorem get_set_ne {α : Type} {o : List α} {i j : Nat} {a b : α} (hne : j ≠ i) (h : o[j]? = some b) : (o.set i a)[j]? = some b := by
  rw [List.getElem?_set_ne (fun e => hne e.symm)]; exact h
theorem log_small {n : Int} (h : n.natAbs < 2 ^ 64) : n.natAbs.log2 < 9000 := by
  by_cases h0 : n.natAbs = 0
  · rw [h0]; decide
  · have := (Nat.log2_lt h0).mpr h; omega
end

noncomputable def dropS : PSs → PSs
  | .cons _ t => t
  | x => x
end Mine
namespace Mine
open PySem PySem.Float64

noncomputable def Near (W D t : Nat) : Prop := ∀ t', dist W (D * V t) ≤ dist W (D * V t') ∧ (V t' ≠ V t → dist W (D * V t) = dist W (D * V t') → t % 2 = 0)

theorem dist_up {W x y : Nat} (h : dist W x ≤ dist W y) (hxy : y < x) : x + y ≤ 2 * W := by unfold dist at h; omega
theorem dist_dn {W x y : Nat} (h : dist W x ≤ dist W y) (hxy : x < y) : 2 * W ≤ x + y := by unfold dist at h; omega
theorem dist_mid {W x y : Nat} (h : x + y = 2 * W) : dist W x = dist W y := by unfold dist; (first | lia | omega)
theorem between {a b c d : Nat} (h1 : a < b) (h2 : c < d) (h3 : c ≤ a) (h4 : d ≤ b) (h : b + a ≤ d + c) : b = d ∧ a = c := by omega
theorem near_mono {W₁ D₁ t₁ W₂ D₂ t₂ : Nat} (hD₁ : 0 < D₁) (hD₂ : 0 < D₂) (h₁ : Near W₁ D₁ t₁) (h₂ : Near W₂ D₂ t₂) (h : W₁ * D₂ ≤ W₂ * D₁) : t₁ ≤ t₂ := by
  rcases Nat.lt_or_ge t₂ t₁ with hlt | hge
  · exfalso
    obtain ⟨a1, a2⟩ := h₁ (t₁ - 1)
    obtain ⟨b1, b2⟩ := h₂ (t₂ + 1)
    have v1 : V (t₁ - 1) < V t₁ := V_lt (Nat.sub_lt (Nat.zero_lt_of_lt hlt) Nat.one_pos)
    have v2 : V t₂ < V (t₂ + 1) := V_succ t₂
    have v3 : V t₂ ≤ V (t₁ - 1) := V_mono (Nat.le_sub_one_of_lt hlt)
    have v4 : V (t₂ + 1) ≤ V t₁ := V_mono hlt
    have c1 := dist_up a1 (Nat.mul_lt_mul_of_pos_left v1 hD₁)
    have c2 := dist_dn b1 (Nat.mul_lt_mul_of_pos_left v2 hD₂)
    have g : (D₁ * D₂) * (V t₁ + V (t₁ - 1)) ≤ (D₁ * D₂) * (V (t₂ + 1) + V t₂) := by
      calc (D₁ * D₂) * (V t₁ + V (t₁ - 1)) = D₂ * (D₁ * V t₁ + D₁ * V (t₁ - 1)) := by rw [← Nat.mul_add]; ac_rfl
        _ ≤ D₂ * (2 * W₁) := Nat.mul_le_mul_left _ c1
        _ = 2 * (W₁ * D₂) := by ac_rfl
        _ ≤ 2 * (W₂ * D₁) := Nat.mul_le_mul_left 2 h
        _ = D₁ * (2 * W₂) := by ac_rfl
        _ ≤ D₁ * (D₂ * V t₂ + D₂ * V (t₂ + 1)) := Nat.mul_le_mul_left _ c2
        _ = (D₁ * D₂) * (V (t₂ + 1) + V t₂) := by rw [← Nat.mul_add]; ac_rfl
    obtain ⟨k1, k4⟩ := between v1 v2 v3 v4 (Nat.le_of_mul_le_mul_left g (Nat.mul_pos hD₁ hD₂))
    have hD : 0 < D₁ * D₂ := Nat.mul_pos hD₁ hD₂
    have m1 : D₁ * V t₁ + D₁ * V (t₁ - 1) = 2 * W₁ := by
      refine Nat.le_antisymm c1 (Nat.le_of_mul_le_mul_left ?_ hD₂)
      calc D₂ * (2 * W₁) = 2 * (W₁ * D₂) := by ac_rfl
        _ ≤ 2 * (W₂ * D₁) := Nat.mul_le_mul_left 2 h
        _ = D₁ * (2 * W₂) := by ac_rfl
        _ ≤ D₁ * (D₂ * V t₂ + D₂ * V (t₂ + 1)) := Nat.mul_le_mul_left _ c2
        _ = D₂ * (D₁ * V t₁ + D₁ * V (t₁ - 1)) := by rw [k1, k4, ← Nat.mul_add, ← Nat.mul_add, Nat.add_comm]; ac_rfl
    have m2 : D₂ * V t₂ + D₂ * V (t₂ + 1) = 2 * W₂ := by
      refine Nat.le_antisymm (Nat.le_of_mul_le_mul_left ?_ hD₁) c2
      calc D₁ * (D₂ * V t₂ + D₂ * V (t₂ + 1)) = D₂ * (D₁ * V t₁ + D₁ * V (t₁ - 1)) := by rw [k1, k4, ← Nat.mul_add, ← Nat.mul_add, Nat.add_comm]; ac_rfl
        _ ≤ D₂ * (2 * W₁) := Nat.mul_le_mul_left _ c1
        _ = 2 * (W₁ * D₂) := by ac_rfl
        _ ≤ 2 * (W₂ * D₁) := Nat.mul_le_mul_left 2 h
        _ = D₁ * (2 * W₂) := by ac_rfl
    have p1 := a2 (Nat.ne_of_lt v1) (dist_mid m1)
    have p2 := b2 (Nat.ne_of_gt v2) (dist_mid m2)
    have k2 : t₁ = t₂ + 1 := V_inj k1
    clear a1 a2 b1 b2 v1 v2 v3 v4 c1 c2 g k1 k4 m1 m2 h h₁ h₂
    omega
  · exact hge
theorem near_zero {D t : Nat} (hD : 0 < D) (h : Near 0 D t) : V t = 0 := by
  have := (h 0).1
  rw [V_zero] at this
  unfold dist at this
  have : D * V t = 0 := by (first | lia | omega)
  rcases Nat.mul_eq_zero.mp this with h | h
  · (first | lia | omega)
  · exact h

structure Rd (r : UInt64) (W : Int) (D : Nat) : Prop where
  fi : Fi r
  pos : 0 < D
  at_ : ∃ t, t < infMag ∧ Near W.natAbs D t ∧ val r = sgn (decide (W < 0)) (V t)

theorem Rd.mono {r r' : UInt64} {W W' : Int} {D D' : Nat} (h : Rd r W D) (k : Rd r' W' D') (hle : W * D' ≤ W' * D) : val r ≤ val r' := by
  obtain ⟨t, ht, hn, hv⟩ := h.at_
  obtain ⟨t', ht', hn', hv'⟩ := k.at_
  have hD := h.pos
  have hD' := k.pos
  rw [hv, hv']
  by_cases h0 : W < 0 <;> by_cases h0' : W' < 0
  · have : W'.natAbs * D ≤ W.natAbs * D' := by
      have e1 : ((W'.natAbs * D : Nat) : Int) = -(W' * D) := by rw [Int.natCast_mul, Int.ofNat_natAbs_of_nonpos (by (first | lia | omega)), Int.neg_mul]
      have e2 : ((W.natAbs * D' : Nat) : Int) = -(W * D') := by rw [Int.natCast_mul, Int.ofNat_natAbs_of_nonpos (by (first | lia | omega)), Int.neg_mul]
      (first | lia | omega)
    have := V_mono (near_mono hD' hD hn' hn this)
    simp only [sgn, h0, h0', decide_true, if_true]
    (first | lia | omega)
  · simp only [sgn, h0, h0', decide_true, decide_false, if_true, Bool.false_eq_true, if_false]
    (first | lia | omega)
  · exfalso
    have e1 : 0 ≤ W * D' := Int.mul_nonneg (by (first | lia | omega)) (by (first | lia | omega))
    have e2 : W' * D < 0 := Int.mul_neg_of_neg_of_pos h0' (by (first | lia | omega))
    (first | lia | omega)
  · have : W.natAbs * D' ≤ W'.natAbs * D := by
      have e1 : ((W'.natAbs * D : Nat) : Int) = W' * D := by rw [Int.natCast_mul, Int.natAbs_of_nonneg (by (first | lia | omega))]
      have e2 : ((W.natAbs * D' : Nat) : Int) = W * D' := by rw [Int.natCast_mul, Int.natAbs_of_nonneg (by (first | lia | omega))]
      (first | lia | omega)
    have := V_mono (near_mono hD hD' hn hn' this)
    simp only [sgn, h0, h0', decide_false, Bool.false_eq_true, if_false]
    (first | lia | omega)
theorem Rd.same {r r' : UInt64} {W W' : Int} {D D' : Nat} (h : Rd r W D) (k : Rd r' W' D') (he : W * D' = W' * D) : val r = val r' :=
  Int.le_antisymm (h.mono k (Int.le_of_eq he)) (k.mono h (Int.le_of_eq he.symm))
theorem Rd.self {y : UInt64} (hy : Fi y) : Rd y (val y) 1 := by
  refine ⟨hy, Nat.one_pos, ?_⟩
  obtain ⟨s, t, ht, rfl⟩ := fi_pack_of hy
  have hv := (fi_pack (s := s) ht).2
  have ha : (val (pack s t)).natAbs = V t := by rw [hv, sgn_natAbs]
  refine ⟨t, ht, fun t' => ⟨by rw [ha]; unfold dist; (first | lia | omega), fun h1 h2 => absurd h2 (by rw [ha]; unfold dist; (first | lia | omega))⟩, ?_⟩
  rw [hv]
  cases s with
  | false =>
    have : ¬ sgn false (V t) < 0 := by simp only [sgn, Bool.false_eq_true, if_false]; (first | lia | omega)
    simp only [this, decide_false]
  | true =>
    by_cases h0 : V t = 0
    · rw [h0]; simp [sgn]
    · have : sgn true (V t) < 0 := by simp only [sgn, if_true]; (first | lia | omega)
      simp only [this, decide_true]
theorem Rd.ge {r y : UInt64} {W : Int} {D : Nat} (h : Rd r W D) (hy : Fi y) (hle : val y * D ≤ W) : val y ≤ val r := (Rd.self hy).mono h (by simpa using hle)
theorem Rd.le {r y : UInt64} {W : Int} {D : Nat} (h : Rd r W D) (hy : Fi y) (hle : W ≤ val y * D) : val r ≤ val y := h.mono (Rd.self hy) (by simpa using hle)

theorem right_rd {r : UInt64} {neg : Bool} {W D Z : Nat} {S : Int} (h : Right r neg W D) (hD : 0 < D) (hW : W ≤ D * Z) (hz : Rep Z) (ha : S.natAbs = W) (hs : W ≠ 0 → neg = decide (S < 0)) : Rd r S D := by
  have hf := (right_fi h hD hW hz).1
  obtain ⟨t, rfl, ht, hov, hn⟩ := h
  have hlt : t < infMag := by
    rcases Nat.lt_or_eq_of_le ht with h | h
    · exact h
    · exfalso
      obtain ⟨a, m, e, hd⟩ := hf
      rw [h] at hd
      cases neg
      · have h2 : decode (pack false infMag) = .inf false := by kernel_rfl
        rw [h2] at hd; cases hd
      · have h2 : decode (pack true infMag) = .inf true := by kernel_rfl
        rw [h2] at hd; cases hd
  refine ⟨hf, hD, t, hlt, ?_, ?_⟩
  · rw [ha]
    exact hn hlt
  · rw [(fi_pack (s := neg) hlt).2]
    by_cases h0 : W = 0
    · have := near_zero hD (by have := hn hlt; rw [h0] at this; exact this)
      rw [this]
      cases neg <;> cases decide (S < 0) <;> rfl
    · rw [hs h0]
theorem Rd.zero (s : Bool) : Rd (zero s) 0 1 := by
  have h := val_zero s
  refine ⟨h.1, Nat.one_pos, 0, by decide, fun t' => ⟨by rw [V_zero]; unfold dist; simp, fun _ _ => rfl⟩, ?_⟩
  rw [h.2, V_zero]
  rfl
noncomputable def big : Nat := 2 ^ 53 * TT
theorem rep_big : Rep big := rep_TT (Nat.le_refl _)
theorem Rd.add {x y : UInt64} (hx : Fi x) (hy : Fi y) (hb : (val x + val y).natAbs ≤ big) : Rd (add x y) (val x + val y) 1 := by
  obtain ⟨a, m, e, hx⟩ := hx
  obtain ⟨b, k, f, hy⟩ := hy
  have h := add_right hx hy
  by_cases h0 : val x + val y = 0
  · rw [h.1 h0, h0]; exact Rd.zero _
  · exact right_rd (h.2 h0) Nat.one_pos (by omega) rep_big rfl fun _ => rfl
theorem Rd.sub {x y : UInt64} (hx : Fi x) (hy : Fi y) (hb : (val x - val y).natAbs ≤ big) : Rd (sub x y) (val x - val y) 1 := by
  obtain ⟨a, m, e, hx⟩ := hx
  obtain ⟨b, k, f, hy⟩ := hy
  have h := sub_right hx hy
  by_cases h0 : val x - val y = 0
  · rw [h.1 h0, h0]; exact Rd.zero _
  · exact right_rd (h.2 h0) Nat.one_pos (by omega) rep_big rfl fun _ => rfl
theorem sgn_neg {x : UInt64} {a : Bool} {m : Nat} {e : Int} (hx : decode x = .fin a m e) (h0 : val x ≠ 0) : a = decide (val x < 0) := by
  have := val_sgn hx
  generalize (val x).natAbs = n at *
  rw [this] at h0 ⊢
  cases a
  · have : ¬ sgn false n < 0 := by simp only [sgn, Bool.false_eq_true, if_false]; omega
    simp [this]
  · have : sgn true n < 0 := by
      simp only [sgn, if_true] at h0 ⊢
      omega
    simp [this]
theorem mul_neg_iff {a b : Int} (ha : a ≠ 0) (hb : b ≠ 0) : (decide (a < 0) != decide (b < 0)) = decide (a * b < 0) := by
  by_cases h1 : a < 0 <;> by_cases h2 : b < 0
  · have : ¬ a * b < 0 := by have := Int.mul_pos_of_neg_of_neg h1 h2; (first | lia | omega)
    simp [h1, h2, this]
  · have : a * b < 0 := Int.mul_neg_of_neg_of_pos h1 (by (first | lia | omega))
    simp [h1, h2, this]
  · have : a * b < 0 := Int.mul_neg_of_pos_of_neg (by (first | lia | omega)) h2
    simp [h1, h2, this]
  · have : ¬ a * b < 0 := by have := Int.mul_nonneg (a := a) (b := b) (by (first | lia | omega)) (by (first | lia | omega)); (first | lia | omega)
    simp [h1, h2, this]
theorem Rd.mul {x y : UInt64} (hx : Fi x) (hy : Fi y) (hb : (val x * val y).natAbs ≤ TT * big) : Rd (mul x y) (val x * val y) TT := by
  obtain ⟨a, m, e, hx⟩ := hx
  obtain ⟨b, k, f, hy⟩ := hy
  refine right_rd (mul_right hx hy) TT_pos (by rw [← Int.natAbs_mul]; exact hb) rep_big (Int.natAbs_mul ..) fun h0 => ?_
  have h1 : val x ≠ 0 := fun h => h0 (by rw [h]; simp)
  have h2 : val y ≠ 0 := fun h => h0 (by rw [h]; simp)
  rw [sgn_neg hx h1, sgn_neg hy h2]
  exact mul_neg_iff h1 h2
theorem Rd.div {x y : UInt64} (hx : Fi x) (hy : Fi y) (h0 : 0 < val y) (hb : (val x).natAbs ≤ (val y).natAbs * 2 ^ 53) : Rd (div x y) (val x * TT) (val y).toNat := by
  obtain ⟨a, m, e, hx⟩ := hx
  obtain ⟨b, k, f, hy⟩ := hy
  have hk : k ≠ 0 := by
    rintro rfl
    have := val_natAbs hy
    simp at this
    (first | lia | omega)
  have e1 : (val y).toNat = (val y).natAbs := by (first | lia | omega)
  rw [e1]
  refine right_rd (Z := big) (div_right hx hy hk) (by (first | lia | omega)) ?_ rep_big (by rw [Int.natAbs_mul]; rfl) fun h => ?_
  · unfold big
    calc (val x).natAbs * 2 ^ 1074 ≤ (val y).natAbs * 2 ^ 53 * 2 ^ 1074 := Nat.mul_le_mul_right _ hb
      _ = (val y).natAbs * (2 ^ 53 * TT) := by rw [Nat.mul_assoc]; rfl
  · have h1 : val x ≠ 0 := fun h' => h (by rw [h']; simp)
    have hT : (0 : Int) < TT := by have := TT_pos; (first | lia | omega)
    rw [sgn_neg hx h1, sgn_neg hy (by (first | lia | omega))]
    have : ¬ val y < 0 := by (first | lia | omega)
    simp only [this, decide_false, Bool.bne_false]
    by_cases hn : val x < 0
    · have : val x * TT < 0 := Int.mul_neg_of_neg_of_pos hn hT
      simp [hn, this]
    · have : ¬ val x * TT < 0 := by have := Int.mul_nonneg (a := val x) (b := TT) (by (first | lia | omega)) (by (first | lia | omega)); (first | lia | omega)
      simp [hn, this]
end Mine
namespace Mine
open PySem PySem.Float64

theorem TT_posI : (0 : Int) < TT := by have := TT_pos; omega
theorem dist_scale (k a b : Nat) : dist (k * a) (k * b) = k * dist a b := by
  unfold dist
  rw [← Nat.mul_sub, ← Nat.mul_sub, ← Nat.mul_add]
theorem near_congr {W D W' D' t : Nat} (hD : 0 < D) (hD' : 0 < D') (he : W * D' = W' * D) (h : Near W D t) : Near W' D' t := by
  have key : ∀ u, D * dist W' (D' * V u) = D' * dist W (D * V u) := by
    intro u
    rw [← dist_scale, ← dist_scale]
    have e1 : D * W' = D' * W := by rw [Nat.mul_comm D, ← he, Nat.mul_comm]
    have e2 : D * (D' * V u) = D' * (D * V u) := by ac_rfl
    rw [e1, e2]
  intro t'
  have k1 := key t
  have k2 := key t'
  obtain ⟨h1, h2⟩ := h t'
  constructor
  · have := Nat.mul_le_mul_left D' h1
    rw [← k1, ← k2] at this
    exact Nat.le_of_mul_le_mul_left this hD
  · intro h3 h4
    refine h2 h3 ?_
    rw [h4, k2] at k1
    exact (Nat.eq_of_mul_eq_mul_left hD' k1).symm
theorem Rd.congr {r : UInt64} {W W' : Int} {D D' : Nat} (h : Rd r W D) (hD' : 0 < D') (he : W * D' = W' * D) : Rd r W' D' := by
  obtain ⟨t, ht, hn, hv⟩ := h.at_
  have hD := h.pos
  have e1 : W.natAbs * D' = W'.natAbs * D := by
    have := congrArg Int.natAbs he
    rw [Int.natAbs_mul, Int.natAbs_mul] at this
    simpa using this
  have e2 : decide (W < 0) = decide (W' < 0) := by
    have a1 : W < 0 ↔ W * D' < 0 := by
      constructor
      · intro h; exact Int.mul_neg_of_neg_of_pos h (by omega)
      · intro h
        by_cases h1 : W < 0
        · exact h1
        · have := Int.mul_nonneg (a := W) (b := D') (by omega) (by omega); omega
    have a2 : W' < 0 ↔ W' * D < 0 := by
      constructor
      · intro h; exact Int.mul_neg_of_neg_of_pos h (by omega)
      · intro h
        by_cases h1 : W' < 0
        · exact h1
        · have := Int.mul_nonneg (a := W') (b := D) (by omega) (by omega); omega
    rw [decide_eq_decide, a1, a2, he]
  exact ⟨h.fi, hD', t, ht, near_congr hD hD' e1 hn, by rw [hv, e2]⟩

structure In (x : UInt64) (K J : Int) (e : Nat) : Prop where
  fi : Fi x
  lo : K * TT ≤ val x * 2 ^ e
  hi : val x * 2 ^ e ≤ J * TT
theorem Is.in {x : UInt64} {n : Int} {e : Nat} (h : Is x n e) : In x n n e := ⟨h.fi, Int.le_of_eq h.eq.symm, Int.le_of_eq h.eq⟩
theorem In.is {x : UInt64} {n : Int} {e : Nat} (h : In x n n e) : Is x n e := ⟨h.fi, Int.le_antisymm h.hi h.lo⟩
noncomputable def fl (K : Int) (e : Nat) : UInt64 := ofFrac (decide (K < 0) != decide ((2 ^ e : Int) < 0)) K.natAbs (2 ^ e : Int).natAbs
theorem fl_is {K : Int} {e : Nat} (hK : K.natAbs ≤ 2 ^ 53) (he : e ≤ 1074) : Is (fl K e) K e := Is.div (p := K) (q := 2 ^ e) (pow_pos_int e) rfl hK he
theorem Rd.in {r : UInt64} {W K J : Int} {D e : Nat} (h : Rd r W D) (hK : K.natAbs ≤ 2 ^ 53) (hJ : J.natAbs ≤ 2 ^ 53) (he : e ≤ 1074) (h1 : K * TT * D ≤ W * 2 ^ e) (h2 : W * 2 ^ e ≤ J * TT * D) : In r K J e := by
  have iK := fl_is hK he
  have iJ := fl_is hJ he
  have p := pow_pos_int e
  refine ⟨h.fi, ?_, ?_⟩
  · rw [← iK.eq]
    refine Int.mul_le_mul_of_nonneg_right (h.ge iK.fi ?_) (Int.le_of_lt p)
    refine Int.le_of_mul_le_mul_right ?_ p
    calc val (fl K e) * D * 2 ^ e = val (fl K e) * 2 ^ e * D := Int.mul_right_comm _ _ _
      _ = K * TT * D := by rw [iK.eq]
      _ ≤ W * 2 ^ e := h1
  · rw [← iJ.eq]
    refine Int.mul_le_mul_of_nonneg_right (h.le iJ.fi ?_) (Int.le_of_lt p)
    refine Int.le_of_mul_le_mul_right ?_ p
    calc W * 2 ^ e ≤ J * TT * D := h2
      _ = val (fl J e) * 2 ^ e * D := by rw [iJ.eq]
      _ = val (fl J e) * D * 2 ^ e := Int.mul_right_comm _ _ _
theorem In.small {x : UInt64} {K J : Int} {e k : Nat} (h : In x K J e) (hK : -(k : Int) * 2 ^ e ≤ K) (hJ : J ≤ (k : Int) * 2 ^ e) : (val x).natAbs ≤ k * TT := by
  have p := pow_pos_int e
  have T := TT_posI
  have a1 : -(k : Int) * TT ≤ val x := by
    refine Int.le_of_mul_le_mul_right ?_ p
    calc -(k : Int) * TT * 2 ^ e = -(k : Int) * 2 ^ e * TT := Int.mul_right_comm _ _ _
      _ ≤ K * TT := Int.mul_le_mul_of_nonneg_right hK (Int.le_of_lt T)
      _ ≤ _ := h.lo
  have a2 : val x ≤ (k : Int) * TT := by
    refine Int.le_of_mul_le_mul_right ?_ p
    calc val x * 2 ^ e ≤ J * TT := h.hi
      _ ≤ (k : Int) * 2 ^ e * TT := Int.mul_le_mul_of_nonneg_right hJ (Int.le_of_lt T)
      _ = (k : Int) * TT * 2 ^ e := Int.mul_right_comm _ _ _
  rw [Int.neg_mul] at a1
  have e1 : ((k * TT : Nat) : Int) = (k : Int) * TT := by simp
  omega
theorem abs_le_pow {K : Int} {e : Nat} (h : K.natAbs ≤ 2 ^ 53) : -((2 ^ 53 : Nat) : Int) * 2 ^ e ≤ K ∧ K ≤ ((2 ^ 53 : Nat) : Int) * 2 ^ e := by
  have p : (1 : Int) ≤ 2 ^ e := pow_pos_int e
  have : ((2 ^ 53 : Nat) : Int) * 1 ≤ ((2 ^ 53 : Nat) : Int) * 2 ^ e := Int.mul_le_mul_of_nonneg_left p (by omega)
  rw [Int.neg_mul]
  omega
theorem In.fits {x : UInt64} {K J : Int} {e : Nat} (h : In x K J e) (hK : K.natAbs ≤ 2 ^ 53) (hJ : J.natAbs ≤ 2 ^ 53) : (val x).natAbs ≤ 2 ^ 53 * TT := h.small (abs_le_pow hK).1 (abs_le_pow hJ).2
theorem In.add {x y : UInt64} {K J K' J' : Int} {e : Nat} (h : In x K J e) (k : In y K' J' e) (hK : (K + K').natAbs ≤ 2 ^ 53) (hJ : (J + J').natAbs ≤ 2 ^ 53) (he : e ≤ 1074) : In (add x y) (K + K') (J + J') e := by
  have a1 : (K + K') * TT ≤ (val x + val y) * 2 ^ e := by rw [Int.add_mul, Int.add_mul]; exact Int.add_le_add h.lo k.lo
  have a2 : (val x + val y) * 2 ^ e ≤ (J + J') * TT := by rw [Int.add_mul, Int.add_mul]; exact Int.add_le_add h.hi k.hi
  have p := pow_pos_int e
  have T := TT_posI
  have hb : (val x + val y).natAbs ≤ big := by
    have b1 : -((2 ^ 53 : Nat) : Int) * TT ≤ val x + val y := by
      refine Int.le_of_mul_le_mul_right ?_ p
      calc _ = -((2 ^ 53 : Nat) : Int) * 2 ^ e * TT := Int.mul_right_comm _ _ _
        _ ≤ (K + K') * TT := Int.mul_le_mul_of_nonneg_right (abs_le_pow hK).1 (Int.le_of_lt T)
        _ ≤ _ := a1
    have b2 : val x + val y ≤ ((2 ^ 53 : Nat) : Int) * TT := by
      refine Int.le_of_mul_le_mul_right ?_ p
      calc _ ≤ (J + J') * TT := a2
        _ ≤ ((2 ^ 53 : Nat) : Int) * 2 ^ e * TT := Int.mul_le_mul_of_nonneg_right (abs_le_pow hJ).2 (Int.le_of_lt T)
        _ = _ := Int.mul_right_comm _ _ _
    have e1 : ((big : Nat) : Int) = ((2 ^ 53 : Nat) : Int) * TT := by unfold big; simp
    rw [Int.neg_mul] at b1
    omega
  exact (Rd.add h.fi k.fi hb).in hK hJ he (by simpa using a1) (by simpa using a2)
end Mine
namespace Mine
open PySem PySem.Float64

end Mine
namespace Mine
open PySem PySem.Float64

theorem flt_is {x y : UInt64} {n m : Int} {e : Nat} (h : Is x n e) (k : Is y m e) : flt x y = decide (n < m) := by
  unfold flt
  rw [h.cmp k]
  simp only [compare, compareOfLessAndEq]
  by_cases h1 : n < m
  · simp [h1]
  · by_cases h2 : n = m
    · simp [h2]
    · simp [h1, h2]
theorem eq_is {x y : UInt64} {n m : Int} {e : Nat} (h : Is x n e) (k : Is y m e) : fcmp .Eq (Float64.cmp x y) = decide (n = m) := by
  rw [h.cmp k]
  simp only [fcmp, compare, compareOfLessAndEq]
  by_cases h1 : n < m
  · have : n ≠ m := by omega
    simp [h1, this]
  · by_cases h2 : n = m
    · simp [h2]
    · simp [h1, h2]
noncomputable def imin3 (a b c : Int) : Int := if b < a then (if c < b then c else b) else (if c < a then c else a)
theorem max_is {r g b : UInt64} {R G B : Int} {e : Nat} (hr : Is r R e) (hg : Is g G e) (hb : Is b B e) : Is (fmax3 r g b) (imax3 R G B) e := by
  unfold fmax3 imax3
  rw [flt_is hr hg, flt_is hg hb, flt_is hr hb]
  by_cases h1 : R < G <;> by_cases h2 : G < B <;> by_cases h3 : R < B <;> simp [h1, h2, h3] <;> assumption
theorem min_is {r g b : UInt64} {R G B : Int} {e : Nat} (hr : Is r R e) (hg : Is g G e) (hb : Is b B e) : Is (fmin3 r g b) (imin3 R G B) e := by
  unfold fmin3 imin3
  rw [flt_is hg hr, flt_is hb hg, flt_is hb hr]
  by_cases h1 : G < R <;> by_cases h2 : B < G <;> by_cases h3 : B < R <;> simp [h1, h2, h3] <;> assumption

noncomputable def hueOf (r g b M d : UInt64) : UInt64 :=
  if fcmp .Eq (Float64.cmp r M) then sub (div (sub M b) d) (div (sub M g) d)
  else if fcmp .Eq (Float64.cmp g M) then sub (add 0x4000000000000000 (div (sub M r) d)) (div (sub M b) d)
  else sub (add 0x4010000000000000 (div (sub M g) d)) (div (sub M r) d)
noncomputable def hueFin (h : UInt64) : UInt64 := (divmod (div h 0x4018000000000000) one).2
noncomputable def hsvOf (r g b : UInt64) : List AV :=
  if fcmp .Eq (Float64.cmp (fmin3 r g b) (fmax3 r g b)) then [.float 0, .float 0, .float (fmax3 r g b)]
  else [.float (hueFin (hueOf r g b (fmax3 r g b) (sub (fmax3 r g b) (fmin3 r g b)))), .float (div (sub (fmax3 r g b) (fmin3 r g b)) (fmax3 r g b)), .float (fmax3 r g b)]

theorem two_is : Is 0x4000000000000000 2 0 := by
  have h : Is 4611686018427387904 (2 * 2 ^ 51) 51 := Is.of_decode (a := false) (m := 2 * 2 ^ 51) (ex := -51) (by kernel_rfl) 51 rfl (by decide)
  exact Is.down (e := 0) (k := 51) h
theorem four_is : Is 0x4010000000000000 4 0 := by
  have h : Is 4616189618054758400 (4 * 2 ^ 50) 50 := Is.of_decode (a := false) (m := 4 * 2 ^ 50) (ex := -50) (by kernel_rfl) 50 rfl (by decide)
  exact Is.down (e := 0) (k := 50) h

theorem rd_quot {x d : UInt64} {p s : Int} {e : Nat} (hx : Is x p e) (hd : Is d s e) (hs : 0 < s) (hp : p.natAbs ≤ s.natAbs * 2 ^ 53) : Rd (div x d) (p * TT) s.natAbs := by
  have T := TT_posI
  have P := pow_pos_int e
  have hv : 0 < val d := by
    have h1 : 0 < val d * 2 ^ e := by rw [hd.eq]; exact Int.mul_pos hs T
    refine Int.lt_of_mul_lt_mul_right (a := 2 ^ e) ?_ (Int.le_of_lt P)
    rw [Int.zero_mul]; exact h1
  have e1 : (val x).natAbs * (2 ^ e : Int).natAbs = p.natAbs * TT := by
    have := congrArg Int.natAbs hx.eq
    rw [Int.natAbs_mul, Int.natAbs_mul] at this
    simpa using this
  have e2 : (val d).natAbs * (2 ^ e : Int).natAbs = s.natAbs * TT := by
    have := congrArg Int.natAbs hd.eq
    rw [Int.natAbs_mul, Int.natAbs_mul] at this
    simpa using this
  have hb : (val x).natAbs ≤ (val d).natAbs * 2 ^ 53 := by
    have hq : 0 < (2 ^ e : Int).natAbs := by (first | lia | omega)
    refine Nat.le_of_mul_le_mul_right ?_ hq
    calc (val x).natAbs * (2 ^ e : Int).natAbs = p.natAbs * TT := e1
      _ ≤ s.natAbs * 2 ^ 53 * TT := Nat.mul_le_mul_right _ hp
      _ = s.natAbs * TT * 2 ^ 53 := Nat.mul_right_comm _ _ _
      _ = (val d).natAbs * (2 ^ e : Int).natAbs * 2 ^ 53 := by rw [e2]
      _ = _ := Nat.mul_right_comm _ _ _
  refine (Rd.div hx.fi hd.fi hv hb).congr (by (first | lia | omega)) ?_
  have e3 : ((val d).toNat : Int) = val d := by (first | lia | omega)
  have e4 : ((s.natAbs : Nat) : Int) = s := by (first | lia | omega)
  rw [e3, e4]
  refine Int.eq_of_mul_eq_mul_right (Int.ne_of_gt P) ?_
  calc val x * TT * s * 2 ^ e = (val x * 2 ^ e) * (TT * s) := by grind
    _ = p * TT * (TT * s) := by rw [hx.eq]
    _ = p * TT * (s * TT) := by rw [Int.mul_comm s]
    _ = p * TT * (val d * 2 ^ e) := by rw [hd.eq]
    _ = _ := by grind
section
variable {p s F C : Int} {u d x : UInt64} {e : Nat}
end
end Mine
namespace Mine
open PySem PySem.Float64

end Mine
namespace Mine
open PySem PySem.Float64

end Mine
namespace Mine
open PySem PySem.Float64

theorem lin_lt {w t x y : Int} (ht : 0 < t) : w + t * x < w + t * y ↔ x < y := by
  constructor
  · intro h; exact Int.lt_of_mul_lt_mul_left (a := t) (by omega) (Int.le_of_lt ht)
  · intro h; exact Int.add_lt_add_left (Int.mul_lt_mul_of_pos_left h ht) w
theorem lin_eq {w t x y : Int} (ht : 0 < t) : w + t * x = w + t * y ↔ x = y := by
  constructor
  · intro h; exact Int.eq_of_mul_eq_mul_left (Int.ne_of_gt ht) (by omega)
  · intro h; rw [h]
theorem imax_lin {w t a b c : Int} (ht : 0 < t) : imax3 (w + t * a) (w + t * b) (w + t * c) = w + t * imax3 a b c := by
  unfold imax3
  simp only [lin_lt ht]
  repeat' split
  all_goals rfl
theorem imin_lin {w t a b c : Int} (ht : 0 < t) : imin3 (w + t * a) (w + t * b) (w + t * c) = w + t * imin3 a b c := by
  unfold imin3
  simp only [lin_lt ht]
  repeat' split
  all_goals rfl
theorem imax_ge (a b c : Int) : a ≤ imax3 a b c ∧ b ≤ imax3 a b c ∧ c ≤ imax3 a b c := by
  unfold imax3
  split
  · rename_i h1
    split
    · rename_i h2; exact ⟨Int.le_of_lt (Int.lt_trans h1 h2), Int.le_of_lt h2, Int.le_refl _⟩
    · rename_i h2; exact ⟨Int.le_of_lt h1, Int.le_refl _, Int.not_lt.mp h2⟩
  · rename_i h1
    split
    · rename_i h2; exact ⟨Int.le_of_lt h2, Int.le_trans (Int.not_lt.mp h1) (Int.le_of_lt h2), Int.le_refl _⟩
    · rename_i h2; exact ⟨Int.le_refl _, Int.not_lt.mp h1, Int.not_lt.mp h2⟩
theorem imin_le (a b c : Int) : imin3 a b c ≤ a ∧ imin3 a b c ≤ b ∧ imin3 a b c ≤ c := by
  unfold imin3
  split
  · rename_i h1
    split
    · rename_i h2; exact ⟨Int.le_of_lt (Int.lt_trans h2 h1), Int.le_of_lt h2, Int.le_refl _⟩
    · rename_i h2; exact ⟨Int.le_of_lt h1, Int.le_refl _, Int.not_lt.mp h2⟩
  · rename_i h1
    split
    · rename_i h2; exact ⟨Int.le_of_lt h2, Int.le_trans (Int.le_of_lt h2) (Int.not_lt.mp h1), Int.le_refl _⟩
    · rename_i h2; exact ⟨Int.le_refl _, Int.not_lt.mp h1, Int.not_lt.mp h2⟩
theorem imax_mem (a b c : Int) : imax3 a b c = a ∨ imax3 a b c = b ∨ imax3 a b c = c := by
  unfold imax3
  repeat' split
  all_goals first | exact .inl rfl | exact .inr (.inl rfl) | exact .inr (.inr rfl)
theorem imin_mem (a b c : Int) : imin3 a b c = a ∨ imin3 a b c = b ∨ imin3 a b c = c := by
  unfold imin3
  repeat' split
  all_goals first | exact .inl rfl | exact .inr (.inl rfl) | exact .inr (.inr rfl)
structure Tw (x y : UInt64) : Prop where
  fx : Fi x
  fy : Fi y
  v : val x = val y
  b : (val x).natAbs ≤ 10 * TT
theorem big_of {a b : Int} (ha : a.natAbs ≤ 10 * TT) (hb : b.natAbs ≤ 10 * TT) : (a - b).natAbs ≤ big ∧ (a + b).natAbs ≤ big := by
  have h : a.natAbs + b.natAbs ≤ big := by
    refine Nat.le_trans (Nat.add_le_add ha hb) ?_
    rw [← Nat.add_mul]
    exact Nat.mul_le_mul_right _ (by decide)
  exact ⟨Nat.le_trans (Int.natAbs_sub_le a b) h, Nat.le_trans (Int.natAbs_add_le a b) h⟩
theorem Tw.subv {x y x' y' : UInt64} (h : Tw x y) (k : Tw x' y') : (Fi (sub x x') ∧ Fi (sub y y')) ∧ val (sub x x') = val (sub y y') := by
  have b := (big_of h.b k.b).1
  have r1 := Rd.sub h.fx k.fx b
  have r2 := Rd.sub h.fy k.fy (by rw [← h.v, ← k.v]; exact b)
  exact ⟨⟨r1.fi, r2.fi⟩, r1.same r2 (by rw [h.v, k.v])⟩
theorem Tw.addv {x y x' y' : UInt64} (h : Tw x y) (k : Tw x' y') : (Fi (add x x') ∧ Fi (add y y')) ∧ val (add x x') = val (add y y') := by
  have b := (big_of h.b k.b).2
  have r1 := Rd.add h.fx k.fx b
  have r2 := Rd.add h.fy k.fy (by rw [← h.v, ← k.v]; exact b)
  exact ⟨⟨r1.fi, r2.fi⟩, r1.same r2 (by rw [h.v, k.v])⟩
theorem quot_tw {x d x' d' : UInt64} {p s t : Int} {e : Nat} (ht : 0 < t) (hs : 0 < s) (p0 : 0 ≤ p) (p1 : p ≤ s) (hx : Is x (t * p) e) (hd : Is d (t * s) e) (hx' : Is x' p 0) (hd' : Is d' s 0) : (Fi (div x d) ∧ Fi (div x' d')) ∧ val (div x d) = val (div x' d') ∧ 0 ≤ val (div x d) ∧ val (div x d) ≤ TT := by
  have hts : 0 < t * s := Int.mul_pos ht hs
  have e1 : (((t * s).natAbs : Nat) : Int) = t * s := Int.natAbs_of_nonneg (Int.le_of_lt hts)
  have e2 : ((s.natAbs : Nat) : Int) = s := Int.natAbs_of_nonneg (Int.le_of_lt hs)
  have tp0 : 0 ≤ t * p := Int.mul_nonneg (Int.le_of_lt ht) p0
  have tps : t * p ≤ t * s := Int.mul_le_mul_of_nonneg_left p1 (Int.le_of_lt ht)
  have r1 := rd_quot hx hd hts (by (first | lia | omega))
  have r2 := rd_quot hx' hd' hs (by (first | lia | omega))
  refine ⟨⟨r1.fi, r2.fi⟩, r1.same r2 ?_, ?_, ?_⟩
  · rw [e1, e2, Int.mul_right_comm (t * p), Int.mul_right_comm p, Int.mul_assoc t p s, Int.mul_left_comm p t s]
  · have := r1.ge (val_zero false).1 (by rw [(val_zero false).2, Int.zero_mul]; exact Int.mul_nonneg tp0 (Int.le_of_lt TT_posI))
    rwa [(val_zero false).2] at this
  · have := r1.le one_is.1 (by rw [one_is.2, e1, Int.mul_comm (TT : Int)]; exact Int.mul_le_mul_of_nonneg_right tps (Int.le_of_lt TT_posI))
    rwa [one_is.2] at this
theorem small_of {v : Int} (k : Nat) (h0 : 0 ≤ v) (h1 : v ≤ k * TT) (hk : k ≤ 10) : v.natAbs ≤ 10 * TT := by
  have : v.natAbs ≤ k * TT := by omega
  exact Nat.le_trans this (Nat.mul_le_mul_right _ hk)
theorem fin_zeros {q : UInt64} (hq : Fi q) (h : val q = 0) : q = 0 ∨ q = 0x8000000000000000 := by
  obtain ⟨s, t, ht, rfl⟩ := fi_pack_of hq
  have v := (fi_pack (s := s) ht).2
  rw [h] at v
  have v0 : V t = 0 := by
    cases s
    · simp only [sgn, Bool.false_eq_true, if_false] at v; omega
    · simp only [sgn, if_true] at v; omega
  have t0 : t = 0 := V_inj (by rw [v0]; decide)
  subst t0
  cases s
  · left; decide
  · right; decide
theorem fin_same {q q' : UInt64} (hq : Fi q) (hq' : Fi q') (h : val q = val q') : hueFin q = hueFin q' := by
  by_cases h0 : val q = 0
  · have z : ∀ x, x = 0 ∨ x = 0x8000000000000000 → hueFin x = 0 := by
      rintro x (rfl | rfl)
      · decide +kernel
      · decide +kernel
    rw [z q (fin_zeros hq h0), z q' (fin_zeros hq' (h ▸ h0))]
  · rw [eq_of_val hq hq' h h0]
theorem Tw.addT {x y x' y' : UInt64} (h : Tw x y) (k : Tw x' y') (hb : (val x + val x').natAbs ≤ 10 * TT) : Tw (add x x') (add y y') :=
  have r := h.addv k
  ⟨r.1.1, r.1.2, r.2, (add_fi h.fx k.fx hb (rep_TT (by decide))).2⟩
noncomputable def hue1 (r g b : UInt64) : UInt64 := if fcmp .Eq (Float64.cmp (fmin3 r g b) (fmax3 r g b)) then 0 else hueFin (hueOf r g b (fmax3 r g b) (sub (fmax3 r g b) (fmin3 r g b)))
theorem hue_inv {x y z x' y' z' : UInt64} {w t A B C : Int} {e : Nat} (ht : 0 < t) (he : e ≤ 1074)
    (hx : Is x (w + t * A) e) (hy : Is y (w + t * B) e) (hz : Is z (w + t * C) e) (hx' : Is x' A 0) (hy' : Is y' B 0) (hz' : Is z' C 0)
    (hb : ((w + t * imax3 A B C) - (w + t * imin3 A B C)).natAbs ≤ 2 ^ 53) : hue1 x y z = hue1 x' y' z' := by
  have hM := max_is hx hy hz
  have hm := min_is hx hy hz
  rw [imax_lin ht] at hM
  rw [imin_lin ht] at hm
  have hM' := max_is hx' hy' hz'
  have hm' := min_is hx' hy' hz'
  obtain ⟨a1, a2, a3⟩ := imax_ge A B C
  obtain ⟨b1, b2, b3⟩ := imin_le A B C
  unfold hue1
  rw [eq_is hm hM, eq_is hm' hM']
  simp only [lin_eq ht]
  generalize imax3 A B C = M at *
  generalize imin3 A B C = m at *
  by_cases hmM : m = M
  · simp only [hmM, decide_true, if_true]
  have hs : 0 < M - m := by (first | lia | omega)
  have sub_eq : ∀ p q : Int, w + t * p - (w + t * q) = t * (p - q) := fun p q => by rw [Int.mul_sub]; (first | lia | omega)
  have hd := hM.sub hm hb he
  rw [sub_eq] at hd hb
  have hb' : (M - m).natAbs ≤ 2 ^ 53 := by
    rw [Int.natAbs_mul] at hb
    exact Nat.le_trans (Nat.le_mul_of_pos_left _ (by (first | lia | omega))) hb
  have hd' := hM'.sub hm' hb' (by decide)
  have part : ∀ {u u' : UInt64} {U : Int}, Is u (w + t * U) e → Is u' U 0 → m ≤ U → U ≤ M → Tw (div (sub (fmax3 x y z) u) (sub (fmax3 x y z) (fmin3 x y z))) (div (sub (fmax3 x' y' z') u') (sub (fmax3 x' y' z') (fmin3 x' y' z'))) ∧ 0 ≤ val (div (sub (fmax3 x y z) u) (sub (fmax3 x y z) (fmin3 x y z))) ∧ val (div (sub (fmax3 x y z) u) (sub (fmax3 x y z) (fmin3 x y z))) ≤ TT := by
    intro u u' U hu hu' h1 h2
    have k1 : (t * (M - U)).natAbs ≤ 2 ^ 53 := by
      refine Nat.le_trans ?_ hb
      rw [Int.natAbs_mul, Int.natAbs_mul]
      exact Nat.mul_le_mul_left _ (by (first | lia | omega))
    have p1 := hM.sub hu (by rw [sub_eq]; exact k1) he
    rw [sub_eq] at p1
    have p2 := hM'.sub hu' (by (first | lia | omega)) (by decide)
    obtain ⟨f, v, v0, v1⟩ := quot_tw ht hs (by (first | lia | omega)) (by (first | lia | omega)) p1 hd p2 hd'
    exact ⟨⟨f.1, f.2, v, small_of 1 v0 (by (first | lia | omega)) (by decide)⟩, v0, v1⟩
  have px := part hx hx' b1 a1
  have py := part hy hy' b2 a2
  have pz := part hz hz' b3 a3
  have T := TT_posI
  have n2 : Tw 0x4000000000000000 0x4000000000000000 := ⟨two_is.fi, two_is.fi, rfl, two_is.abs_le 10 (by decide)⟩
  have n4 : Tw 0x4010000000000000 0x4010000000000000 := ⟨four_is.fi, four_is.fi, rfl, four_is.abs_le 10 (by decide)⟩
  have v2 : val 0x4000000000000000 = 2 * TT := by have := two_is.eq; simpa using this
  have v4 : val 0x4010000000000000 = 4 * TT := by have := four_is.eq; simpa using this
  simp only [hmM, decide_false, Bool.false_eq_true, if_false]
  unfold hueOf
  rw [eq_is hx hM, eq_is hx' hM', eq_is hy hM, eq_is hy' hM']
  simp only [lin_eq ht]
  by_cases c1 : A = M
  · have r := pz.1.subv py.1
    simp only [c1, decide_true, if_true]
    exact fin_same r.1.1 r.1.2 r.2
  by_cases c2 : B = M
  · have r := (n2.addT px.1 (by (first | lia | omega))).subv pz.1
    simp only [c1, c2, decide_true, decide_false, Bool.false_eq_true, if_true, if_false]
    exact fin_same r.1.1 r.1.2 r.2
  · have r := (n4.addT py.1 (by (first | lia | omega))).subv px.1
    simp only [c1, c2, decide_false, Bool.false_eq_true, if_false]
    exact fin_same r.1.1 r.1.2 r.2
end Mine
namespace Mine
open PySem PySem.Float64

noncomputable def mx3 (r g b : Nat) : Nat := max r (max g b)
noncomputable def mn3 (r g b : Nat) : Nat := min r (min g b)
noncomputable def place (r g b : Nat) : Nat :=
  if r = 60 ∧ b = 0 then g else if g = 60 ∧ b = 0 then 120 - r else if g = 60 ∧ r = 0 then 120 + b
  else if b = 60 ∧ r = 0 then 240 - g else if b = 60 ∧ g = 0 then 240 + r else 360 - b
noncomputable def canon (k : Nat) : Nat × Nat × Nat :=
  match k / 60 with
  | 0 => (60, k, 0) | 1 => (120 - k, 60, 0) | 2 => (0, 60, k - 120) | 3 => (0, 240 - k, 60) | 4 => (k - 240, 0, 60) | _ => (60, 0, 360 - k)
noncomputable def dg (N n : Nat) : Nat × Nat × Nat := (n % N, n / N % N, n / N ^ 2)
noncomputable def hkey (c : Nat × Nat × Nat) : Nat :=
  match c with
  | (r, g, b) =>
    match mx3 r g b - mn3 r g b with
    | 0 => 0
    | s + 1 => place (60 * (r - mn3 r g b) / (s + 1)) (60 * (g - mn3 r g b) / (s + 1)) (60 * (b - mn3 r g b) / (s + 1))
noncomputable def fits (c : Nat × Nat × Nat) : Bool :=
  match c with
  | (r, g, b) => mx3 r g b - mn3 r g b == 0 ||
    (60 * r == 60 * mn3 r g b + (mx3 r g b - mn3 r g b) * (canon (hkey (r, g, b))).1 && 60 * g == 60 * mn3 r g b + (mx3 r g b - mn3 r g b) * (canon (hkey (r, g, b))).2.1 &&
      60 * b == 60 * mn3 r g b + (mx3 r g b - mn3 r g b) * (canon (hkey (r, g, b))).2.2)
noncomputable def skey (c : Nat × Nat × Nat) : Nat := match c with | (r, g, b) => 60 * (mx3 r g b - mn3 r g b) / mx3 r g b
noncomputable def fitsS (c : Nat × Nat × Nat) : Bool := match c with | (r, g, b) => mx3 r g b - mn3 r g b == 0 || 60 * (mx3 r g b - mn3 r g b) == mx3 r g b * skey (r, g, b)
noncomputable def cols (N : Nat) : List (Nat × Nat × Nat) := (List.range (N ^ 3)).map (dg N)
noncomputable def lowest (N : Nat) : List (Nat × Nat) :=
  (List.range 61).flatMap fun p => ((List.range N).filter fun k => 0 < k ∧ (p * k) % 60 = 0 ∧ Nat.gcd (p * k / 60) k = 1).map fun k => (p * k / 60, k)
noncomputable def crowd (N k : Nat) : Nat := (((List.range ((N - 1) / k + 1)).drop 1).map fun i => N - k * i).sum
noncomputable def dueH (N : Nat) : List (Nat × Nat × Nat) := (List.range 6).flatMap fun s => (lowest N).dropLast.map fun p => (s * p.2 + p.1, p.2, crowd N p.2)
noncomputable def hcrowds (N : Nat) : List (Nat × Nat) := match (dueH N).map fun d => (60 * d.1 / d.2.1, d.2.2) with | [] => [] | d :: r => (d.1, d.2 + N) :: r
noncomputable def scrowds (N : Nat) : List (Nat × Nat) := (0, N) :: (lowest N).tail.map fun p => (60 * p.1 / p.2, 6 * p.1 * (List.range ((N - 1) / p.2 + 1)).sum)
noncomputable def vcrowds (N : Nat) : List (Nat × Nat) := (List.range N).map fun m => (m, (m + 1) ^ 3 - m ^ 3)
noncomputable def spread (l : List (Nat × Nat)) : List Nat := l.flatMap fun p => List.replicate p.2 p.1

noncomputable def depths : List Nat := [3, 4, 5, 6, 7]
noncomputable def hueTab : List (Nat × Nat) := [(0, 0), (10, 4583663620745971483), (12, 4584964660638322960), (15, 4586165620538955093), (20, 4588167220373341981), (24, 4589468260265693457), (30, 4590669220166325589), (36, 4591870180066957721), (40, 4592670820000712477), (45, 4593671619917905920), (48, 4593971859893063953), (50, 4594172019876502642), (60, 4595172819793696085), (70, 4596173619710889528), (72, 4596373779694328219), (75, 4596674019669486251), (80, 4597174419628082973), (84, 4597574739594960349), (90, 4598175219545276416), (96, 4598475459520434449), (100, 4598675619503873137), (105, 4598925819483171499), (108, 4599075939470750515), (110, 4599176019462469860), (120, 4599676419421066581), (130, 4600176819379663303), (132, 4600276899371382648), (135, 4600427019358961664), (140, 4600677219338260025), (144, 4600877379321698713), (150, 4601177619296856747), (156, 4601477859272014780), (160, 4601678019255453468), (165, 4601928219234751829), (168, 4602078339222330845), (170, 4602178419214050191), (180, 4602678819172646912), (190, 4602929019151945273), (192, 4602979059147804945), (195, 4603054119141594453), (200, 4603179219131243633), (204, 4603279299122962979), (210, 4603429419110541995), (216, 4603579539098121011), (220, 4603679619089840356), (225, 4603804719079489536), (228, 4603879779073279044), (230, 4603929819069138716), (240, 4604180019048437077), (250, 4604430219027735439), (252, 4604480259023595111), (255, 4604555319017384619), (260, 4604680419007033799), (264, 4604780498998753144), (270, 4604930618986332160), (276, 4605080738973911176), (280, 4605180818965630521), (285, 4605305918955279701), (288, 4605380978949069209), (290, 4605431018944928881), (300, 4605681218924227243), (310, 4605931418903525604), (312, 4605981458899385276), (315, 4606056518893174784), (320, 4606181618882823964), (324, 4606281698874543309), (330, 4606431818862122325), (336, 4606581938849701342), (340, 4606682018841420686), (345, 4606807118831069867), (348, 4606882178824859375), (350, 4606932218820719047)]
noncomputable def F (k : Nat) : UInt64 := UInt64.ofNat ((hueTab.lookup k).getD 0)
noncomputable def tabOk (p : Nat × Nat) : Bool := hue1 (ofInt (canon p.1).1) (ofInt (canon p.1).2.1) (ofInt (canon p.1).2.2) == F p.1
theorem tab1 : (hueTab.take 18).all tabOk = true := by decide +kernel
theorem tab2 : ((hueTab.drop 18).take 18).all tabOk = true := by decide +kernel
theorem tab3 : ((hueTab.drop 36).take 18).all tabOk = true := by decide +kernel
theorem tab4 : (hueTab.drop 54).all tabOk = true := by decide +kernel
theorem hue_tab : hueTab.all tabOk = true := by
  have e : hueTab = hueTab.take 18 ++ ((hueTab.drop 18).take 18 ++ ((hueTab.drop 36).take 18 ++ hueTab.drop 54)) := by decide +kernel
  rw [e, List.all_append, List.all_append, List.all_append, tab1, tab2, tab3, tab4]
  rfl
noncomputable def G (k : Nat) : UInt64 := if k = 0 then 0 else div (ofInt k) (ofInt 60)
noncomputable def rising (f : Nat → UInt64) : List Nat → Bool
  | a :: b :: r => (Float64.cmp (f a) (f b) == some .lt) && rising f (b :: r)
  | _ => true
noncomputable def peel : List Nat → List (Nat × Nat) → Bool
  | l, [] => l.isEmpty
  | l, (k, n) :: r => (l.filter (Nat.beq k)).length == n && peel (l.filter fun x => !(Nat.beq k x)) r
theorem peel_perm : ∀ {cr : List (Nat × Nat)} {l : List Nat}, peel l cr = true → l.Perm (spread cr)
  | [], l, h => by rw [List.isEmpty_iff.mp h]; exact .refl _
  | (k, n) :: r, l, h => by
    obtain ⟨h1, h2⟩ := Bool.and_eq_true_iff.mp h
    have e : l.filter (Nat.beq k) = List.replicate n k := List.eq_replicate_iff.mpr ⟨eq_of_beq h1, fun b hb => (Nat.eq_of_beq_eq_true (List.mem_filter.mp hb).2).symm⟩
    have p := (peel_perm h2).append_left (List.replicate n k)
    refine List.Perm.trans ?_ p
    rw [← e]
    exact (List.filter_append_perm _ _).symm
theorem hues_a : ∀ N ∈ [3, 4, 5, 6], peel ((cols N).map hkey) (hcrowds N) = true := by decide +kernel
theorem hues_b : peel ((cols 7).map hkey) (hcrowds 7) = true := by decide +kernel
theorem hues_perm : ∀ N ∈ depths, peel ((cols N).map hkey) (hcrowds N) = true := fun N h =>
  ((List.mem_append (s := [3, 4, 5, 6]) (t := [7])).mp h).elim (hues_a N) fun h => by rw [List.mem_singleton.mp h]; exact hues_b
theorem crowd_keys : ∀ N ∈ depths, (hcrowds N).all (fun p => (hueTab.map (·.1)).contains p.1) = true := by decide +kernel
theorem hue_keys : ∀ N ∈ depths, (cols N).all (fun c => (hueTab.map (·.1)).contains (hkey c)) = true := fun N h => List.all_eq_true.mpr fun c hc => by
  have m := (peel_perm (hues_perm N h)).mem_iff.mp (List.mem_map_of_mem (f := hkey) hc)
  obtain ⟨p, hp, hk⟩ := List.mem_flatMap.mp m
  have q := List.all_eq_true.mp (crowd_keys N h) p hp
  rwa [← List.eq_of_mem_replicate hk] at q
theorem shares_perm : ∀ N ∈ depths, peel ((cols N).map skey) (scrowds N) = true := by decide +kernel
theorem values_perm : ∀ N ∈ depths, peel ((cols N).map fun c => mx3 c.1 c.2.1 c.2.2) (vcrowds N) = true := by decide +kernel
theorem hues_rise : ∀ N ∈ depths, rising F ((hcrowds N).map (·.1)) = true := by decide +kernel
theorem shares_rise : ∀ N ∈ depths, rising G ((scrowds N).map (·.1)) = true := by decide +kernel
theorem fences : ∀ N ∈ depths, (dueH N).all (fun d => fcmp .Lt (Float64.cmp (F (60 * d.1 / d.2.1)) (divII ((d.1 * 2 ^ 48 : Nat) / d.2.1 : Nat) (6 * 2 ^ 48))) == false &&
    fcmp .Gt (Float64.cmp (F (60 * d.1 / d.2.1)) (divII (-(-((d.1 * 2 ^ 48 : Nat) : Int)).fdiv d.2.1) (6 * 2 ^ 48))) == false) = true := by decide +kernel
theorem corners : ∀ N ∈ depths, (Float64.cmp (F (hkey (dg N (2 + N)))) (divII 1 12) == some .eq && Float64.cmp (F (hkey (dg N (1 + 2 * N)))) (divII 1 4) == some .eq &&
    Float64.cmp (F (hkey (dg N (1 + 2 * N ^ 2)))) (divII 3 4) == some .eq) = true := by decide +kernel
theorem fractions : ∀ N ∈ depths, (lowest N).tail.all (fun p => Float64.cmp (G (60 * p.1 / p.2)) (divII p.1 p.2) == some .eq) = true := by decide +kernel
theorem cols_fit : ∀ N ∈ depths, (cols N).all (fun c => fits c && fitsS c) = true := by decide +kernel
end Mine
namespace Mine
open PySem PySem.Float64

theorem ofInt_is {n : Int} (h : n.natAbs ≤ 2 ^ 53) : Is (ofInt n) n 0 := by
  have := Is.div (p := n) (q := 1) (n := n) (e := 0) (by decide) (by simp) h (by decide)
  simpa [ofInt] using this
theorem hue_inv' {x y z x' y' z' : UInt64} {w t A B C : Int} {e : Nat} (ht : 0 < t) (he : e ≤ 1074)
    (hx : Is x (w + t * A) e) (hy : Is y (w + t * B) e) (hz : Is z (w + t * C) e) (hx' : Is x' A 0) (hy' : Is y' B 0) (hz' : Is z' C 0)
    (hb : ∀ U, U = A ∨ U = B ∨ U = C → 0 ≤ w + t * U ∧ w + t * U ≤ 2 ^ 53) : hue1 x y z = hue1 x' y' z' := by
  refine hue_inv ht he hx hy hz hx' hy' hz' ?_
  have h1 := hb _ (imax_mem A B C)
  have h2 := hb _ (imin_mem A B C)
  omega
theorem nat_is {n : Nat} (h : n ≤ 2 ^ 20) : Is (ofInt n) (n : Int) 0 := ofInt_is (Nat.le_trans h (by decide))
theorem hue_nats {w t A B C A' B' C' : Nat} (ht : 0 < t) (ha : A' = w + t * A) (hb : B' = w + t * B) (hc : C' = w + t * C) (bA : A ≤ 60) (bB : B ≤ 60) (bC : C ≤ 60)
    (bA' : A' ≤ 420) (bB' : B' ≤ 420) (bC' : C' ≤ 420) : hue1 (ofInt A') (ofInt B') (ofInt C') = hue1 (ofInt A) (ofInt B) (ofInt C) := by
  have cast : ∀ {X' X : Nat}, X' = w + t * X → X' ≤ 420 → Is (ofInt X') ((w : Int) + t * X) 0 ∧ 0 ≤ (w : Int) + t * X ∧ (w : Int) + t * X ≤ 2 ^ 53 := by
    intro X' X e h
    have e2 : (w : Int) + t * X = X' := by rw [e]; simp
    rw [e2]
    exact ⟨nat_is (Nat.le_trans h (by decide)), Int.natCast_nonneg _, Int.le_trans (Int.ofNat_le.mpr h) (by decide)⟩
  have small : ∀ {X : Nat}, X ≤ 60 → Is (ofInt X) (X : Int) 0 := fun h => nat_is (Nat.le_trans h (by decide))
  have ca := cast ha bA'
  have cb := cast hb bB'
  have cc := cast hc bC'
  refine hue_inv' (e := 0) (w := w) (t := t) (A := A) (B := B) (C := C) (Int.ofNat_lt.mpr ht) (by decide) ca.1 cb.1 cc.1 (small bA) (small bB) (small bC) ?_
  rintro U (rfl | rfl | rfl)
  · exact ca.2
  · exact cb.2
  · exact cc.2
theorem depth_le {N : Nat} (h : N ∈ depths) : 3 ≤ N ∧ N ≤ 7 := by
  have : ∀ N ∈ depths, 3 ≤ N ∧ N ≤ 7 := by decide
  exact this N h
theorem col_lt {N : Nat} (h : N ∈ depths) {r g b : Nat} (hc : (r, g, b) ∈ cols N) : r < N ∧ g < N ∧ b < N := by
  have : ∀ N ∈ depths, (cols N).all (fun c => decide (c.1 < N ∧ c.2.1 < N ∧ c.2.2 < N)) = true := by decide +kernel
  simpa using List.all_eq_true.mp (this N h) _ hc
theorem mx_ge (r g b : Nat) : r ≤ mx3 r g b ∧ g ≤ mx3 r g b ∧ b ≤ mx3 r g b := ⟨Nat.le_max_left _ _, Nat.le_trans (Nat.le_max_left _ _) (Nat.le_max_right _ _), Nat.le_trans (Nat.le_max_right _ _) (Nat.le_max_right _ _)⟩
theorem mn_le (r g b : Nat) : mn3 r g b ≤ r ∧ mn3 r g b ≤ g ∧ mn3 r g b ≤ b := ⟨Nat.min_le_left _ _, Nat.le_trans (Nat.min_le_right _ _) (Nat.min_le_left _ _), Nat.le_trans (Nat.min_le_right _ _) (Nat.min_le_right _ _)⟩
theorem mx_lt {r g b N : Nat} (h : r < N ∧ g < N ∧ b < N) : mx3 r g b < N := Nat.max_lt.mpr ⟨h.1, Nat.max_lt.mpr h.2⟩
theorem mn_mx (r g b : Nat) : mn3 r g b ≤ mx3 r g b := Nat.le_trans (mn_le r g b).1 (mx_ge r g b).1
theorem all_eq {r g b : Nat} (h : mx3 r g b - mn3 r g b = 0) : r = g ∧ g = b := by
  have q : ∀ {x y : Nat}, x ≤ mx3 r g b → mn3 r g b ≤ y → x ≤ y := fun hx hy => Nat.le_trans hx (Nat.le_trans (Nat.le_of_sub_eq_zero h) hy)
  have a := mx_ge r g b
  have c := mn_le r g b
  exact ⟨Nat.le_antisymm (q a.1 c.2.1) (q a.2.1 c.1), Nat.le_antisymm (q a.2.1 c.2.2) (q a.2.2 c.2.1)⟩
theorem canon_le (k : Nat) (h : (hueTab.map (·.1)).contains k = true) : (canon k).1 ≤ 60 ∧ (canon k).2.1 ≤ 60 ∧ (canon k).2.2 ≤ 60 := by
  have : (hueTab.map (·.1)).all (fun k => decide ((canon k).1 ≤ 60 ∧ (canon k).2.1 ≤ 60 ∧ (canon k).2.2 ≤ 60)) = true := by decide +kernel
  have h2 := List.all_eq_true.mp this k (by simpa using h)
  simpa using h2
theorem tab_at (k : Nat) (h : (hueTab.map (·.1)).contains k = true) : hue1 (ofInt (canon k).1) (ofInt (canon k).2.1) (ofInt (canon k).2.2) = F k := by
  have h1 : k ∈ hueTab.map (·.1) := by simpa using h
  obtain ⟨p, hp, rfl⟩ := List.mem_map.mp h1
  exact eq_of_beq (List.all_eq_true.mp hue_tab p hp)
theorem less7 {N U : Nat} (hN : N ∈ depths) (h : U < N) : U ≤ 7 := Nat.le_of_lt (Nat.lt_of_lt_of_le h (depth_le hN).2)
theorem hue_col {N : Nat} (hN : N ∈ depths) {r g b : Nat} (hc : (r, g, b) ∈ cols N) {x y z : UInt64} {w t : Int} {e : Nat} (ht : 0 < t) (he : e ≤ 1074)
    (hx : Is x (w + t * r) e) (hy : Is y (w + t * g) e) (hz : Is z (w + t * b) e) (hb : ∀ U : Nat, U < N → 0 ≤ w + t * U ∧ w + t * U ≤ 2 ^ 53) : hue1 x y z = F (hkey (r, g, b)) := by
  have l := col_lt hN hc
  have r7 := less7 hN l.1
  have g7 := less7 hN l.2.1
  have b7 := less7 hN l.2.2
  have sm : ∀ {U : Nat}, U ≤ 7 → Is (ofInt U) (U : Int) 0 := fun h => nat_is (Nat.le_trans h (by decide))
  have e1 : hue1 x y z = hue1 (ofInt r) (ofInt g) (ofInt b) := by
    refine hue_inv' ht he hx hy hz (sm r7) (sm g7) (sm b7) ?_
    rintro U (rfl | rfl | rfl)
    · exact hb r l.1
    · exact hb g l.2.1
    · exact hb b l.2.2
  have f := List.all_eq_true.mp (cols_fit N hN) _ hc
  have k := List.all_eq_true.mp (hue_keys N hN) _ hc
  rw [e1]
  clear e1 hx hy hz hb
  have f1 := (Bool.and_eq_true _ _ ▸ f).1
  simp only [fits, Bool.or_eq_true, Bool.and_eq_true, beq_iff_eq] at f1
  by_cases h0 : mx3 r g b - mn3 r g b = 0
  · obtain ⟨rfl, rfl⟩ := all_eq h0
    have e0 : hkey (r, r, r) = 0 := by simp [hkey, h0]
    rw [e0]
    have i := sm r7
    unfold hue1
    rw [eq_is (min_is i i i) (max_is i i i)]
    simp [imin3, imax3, F]
    decide
  · obtain ⟨⟨f1, f2⟩, f3⟩ := f1.resolve_left h0
    have c := canon_le _ k
    rw [← tab_at _ k]
    generalize canon (hkey (r, g, b)) = q at *
    have up : ∀ {U : Nat}, U ≤ 7 → 0 + 60 * U ≤ 420 := fun h => by rw [Nat.zero_add]; exact Nat.mul_le_mul_left 60 h
    have z0 : ∀ U : Nat, 0 + 60 * U = 60 * U := fun U => Nat.zero_add _
    rw [← hue_nats (w := 0) (t := 60) (by decide) rfl rfl rfl (Nat.le_trans r7 (by decide)) (Nat.le_trans g7 (by decide)) (Nat.le_trans b7 (by decide)) (up r7) (up g7) (up b7)]
    rw [← z0] at f1 f2 f3
    exact hue_nats (Nat.pos_of_ne_zero h0) f1 f2 f3 c.1 c.2.1 c.2.2 (up r7) (up g7) (up b7)
end Mine
namespace Mine
open PySem PySem.Float64

theorem mx3_eq {a b c M : Nat} (h : a ≤ M ∧ b ≤ M ∧ c ≤ M) (h' : M = a ∨ M = b ∨ M = c) : mx3 a b c = M := by
  refine Nat.le_antisymm (Nat.max_le.mpr ⟨h.1, Nat.max_le.mpr h.2⟩) ?_
  have g := mx_ge a b c
  rcases h' with rfl | rfl | rfl
  · exact g.1
  · exact g.2.1
  · exact g.2.2
theorem mn3_eq {a b c M : Nat} (h : M ≤ a ∧ M ≤ b ∧ M ≤ c) (h' : M = a ∨ M = b ∨ M = c) : mn3 a b c = M := by
  refine Nat.le_antisymm ?_ (Nat.le_min.mpr ⟨h.1, Nat.le_min.mpr h.2⟩)
  have g := mn_le a b c
  rcases h' with rfl | rfl | rfl
  · exact g.1
  · exact g.2.1
  · exact g.2.2
theorem imax_nat (a b c : Nat) : imax3 (a : Int) b c = (mx3 a b c : Nat) := by
  have m := imax_mem a b c
  have g := imax_ge a b c
  obtain ⟨M, hM⟩ : ∃ M : Nat, imax3 (a : Int) b c = M := by
    rcases m with m | m | m <;> exact ⟨_, m⟩
  rw [hM] at m g ⊢
  rw [mx3_eq ⟨Int.ofNat_le.mp g.1, Int.ofNat_le.mp g.2.1, Int.ofNat_le.mp g.2.2⟩ (m.imp Int.ofNat.inj (Or.imp Int.ofNat.inj Int.ofNat.inj))]
theorem imin_nat (a b c : Nat) : imin3 (a : Int) b c = (mn3 a b c : Nat) := by
  have m := imin_mem a b c
  have g := imin_le a b c
  obtain ⟨M, hM⟩ : ∃ M : Nat, imin3 (a : Int) b c = M := by
    rcases m with m | m | m <;> exact ⟨_, m⟩
  rw [hM] at m g ⊢
  rw [mn3_eq ⟨Int.ofNat_le.mp g.1, Int.ofNat_le.mp g.2.1, Int.ofNat_le.mp g.2.2⟩ (m.imp Int.ofNat.inj (Or.imp Int.ofNat.inj Int.ofNat.inj))]
noncomputable def share1 (r g b : UInt64) : UInt64 := if fcmp .Eq (Float64.cmp (fmin3 r g b) (fmax3 r g b)) then 0 else div (sub (fmax3 r g b) (fmin3 r g b)) (fmax3 r g b)
theorem hsv_parts (r g b : UInt64) : hsvOf r g b = [.float (hue1 r g b), .float (share1 r g b), .float (fmax3 r g b)] := by
  unfold hsvOf hue1 share1
  split <;> rfl
theorem mem_spread {l : List (Nat × Nat)} {k : Nat} (h : k ∈ spread l) : ∃ p ∈ l, p.1 = k := by
  obtain ⟨p, hp, hk⟩ := List.mem_flatMap.mp h
  exact ⟨p, hp, (List.eq_of_mem_replicate hk).symm⟩
theorem shares_nz : ∀ N ∈ depths, (scrowds N).all (fun p => p.1 == 0 || !isZero (G p.1)) = true := by decide +kernel
theorem nat_le {a b : Int} (h0 : 0 ≤ a) (h : a ≤ b) : a.natAbs ≤ b.natAbs * 2 ^ 53 := by omega
theorem share_eq {x y : UInt64} {t : Int} {M m k e : Nat} (ht : 0 < t) (hM : 0 < M) (hmM : m ≤ M) (hx : Is x (t * ((M : Int) - m)) e) (hy : Is y (t * M) e) (f : 60 * (M - m) = M * k) (k0 : k ≠ 0) (kl : k ≤ 60) (nz : isZero (G k) = false) : div x y = G k := by
  have hts : 0 < t * (M : Int) := Int.mul_pos ht (Int.ofNat_lt.mpr hM)
  have d0 : 0 ≤ (M : Int) - m := Int.sub_nonneg_of_le (Int.ofNat_le.mpr hmM)
  have tps : t * ((M : Int) - m) ≤ t * M := Int.mul_le_mul_of_nonneg_left (Int.sub_le_self _ (Int.natCast_nonneg m)) (Int.le_of_lt ht)
  have tp0 : 0 ≤ t * ((M : Int) - m) := Int.mul_nonneg (Int.le_of_lt ht) d0
  have r1 := rd_quot hx hy hts (nat_le tp0 tps)
  have r2 := rd_quot (p := k) (s := 60) (nat_is (Nat.le_trans kl (by decide))) (show Is (ofInt 60) 60 0 from ofInt_is (by decide)) (by decide) (nat_le (Int.natCast_nonneg k) (Int.ofNat_le.mpr kl))
  have ev := r1.same r2 (by
    have e1 : (((t * (M : Int)).natAbs : Nat) : Int) = t * M := Int.natAbs_of_nonneg (Int.le_of_lt hts)
    have e2 : ((M : Int) - m) * 60 = M * k := by rw [← Int.ofNat_sub hmM, Int.mul_comm]; exact_mod_cast f
    rw [e1]
    show t * ((M : Int) - m) * TT * 60 = k * TT * (t * M)
    rw [Int.mul_right_comm _ (TT : Int) 60, Int.mul_assoc t, e2, Int.mul_comm (k * TT : Int), Int.mul_assoc t, Int.mul_assoc t, Int.mul_assoc (M : Int)])
  unfold G at nz ⊢
  rw [if_neg k0] at nz ⊢
  refine eq_of_val r1.fi r2.fi ev ?_
  rw [ev]
  have := isZero_val r2.fi
  rw [nz] at this
  exact fun h => absurd this (by rw [decide_eq_true h]; decide)
theorem share_col {N : Nat} (hN : N ∈ depths) {r g b : Nat} (hc : (r, g, b) ∈ cols N) {x y z : UInt64} {t : Int} {e : Nat} (ht : 0 < t) (he : e ≤ 1074)
    (hx : Is x (t * r) e) (hy : Is y (t * g) e) (hz : Is z (t * b) e) (hb : ∀ U : Nat, U < N → 0 ≤ t * U ∧ t * U ≤ 2 ^ 53) : share1 x y z = G (skey (r, g, b)) := by
  have w0 : ∀ {u : UInt64} {n : Int}, Is u (t * n) e → Is u (0 + t * n) e := fun h => by rwa [Int.zero_add]
  have hM := max_is (w0 hx) (w0 hy) (w0 hz)
  have hm := min_is (w0 hx) (w0 hy) (w0 hz)
  rw [imax_lin ht, imax_nat] at hM
  rw [imin_lin ht, imin_nat] at hm
  have f := (Bool.and_eq_true _ _ ▸ List.all_eq_true.mp (cols_fit N hN) _ hc).2
  simp only [fitsS, Bool.or_eq_true, beq_iff_eq] at f
  unfold share1
  rw [eq_is hm hM]
  simp only [lin_eq ht]
  have hmM := mn_mx r g b
  have bM := hb _ (mx_lt (col_lt hN hc))
  have bm := hb _ (Nat.lt_of_le_of_lt hmM (mx_lt (col_lt hN hc)))
  clear w0 hx hy hz hb
  by_cases h0 : mx3 r g b - mn3 r g b = 0
  · have e0 : skey (r, g, b) = 0 := by simp [skey, h0]
    have e1 : mn3 r g b = mx3 r g b := Nat.le_antisymm hmM (Nat.le_of_sub_eq_zero h0)
    rw [e0, e1]
    simp [G]
  · have f := f.resolve_left h0
    have kin := (peel_perm (shares_perm N hN)).mem_iff.mp (List.mem_map_of_mem (f := skey) hc)
    obtain ⟨p, hp, hk⟩ := mem_spread kin
    have nz := List.all_eq_true.mp (shares_nz N hN) p hp
    rw [hk] at nz
    clear kin hp hk hc
    generalize skey (r, g, b) = k at *
    generalize mx3 r g b = M at *
    generalize mn3 r g b = m at *
    have hlt : m < M := Nat.lt_of_sub_pos (Nat.pos_of_ne_zero h0)
    have M0 : 0 < M := Nat.lt_of_le_of_lt (Nat.zero_le m) hlt
    have hne : ¬ ((m : Nat) : Int) = (M : Nat) := fun h => Nat.ne_of_lt hlt (Int.ofNat.inj h)
    rw [decide_eq_false hne, if_neg (by decide)]
    have k0 : k ≠ 0 := by
      rintro rfl
      rw [Nat.mul_zero] at f
      exact h0 ((Nat.mul_eq_zero.mp f).resolve_left (by decide))
    have kl : k ≤ 60 := by
      refine Nat.le_of_mul_le_mul_left (?_ : M * k ≤ M * 60) M0
      rw [← f, Nat.mul_comm M]
      exact Nat.mul_le_mul_left 60 (Nat.sub_le _ _)
    have nz' : isZero (G k) = false := by
      have := (Bool.or_eq_true _ _ ▸ nz).resolve_left (fun h => k0 (eq_of_beq h))
      simpa using this
    rw [Int.zero_add] at hM hm
    have hd := hM.sub hm (by omega) he
    rw [← Int.mul_sub] at hd
    exact share_eq ht M0 hmM hd hM f k0 kl nz'
noncomputable def Rise (f : Nat → UInt64) (l : List (Nat × Nat)) : Prop := l.Pairwise fun p q => val (f p.1) < val (f q.1)
theorem spread_sorted {f : Nat → UInt64} : ∀ {l : List (Nat × Nat)}, Rise f l → ((spread l).map f).Pairwise fun x y => val x ≤ val y
  | [], _ => .nil
  | p :: l, h => by
    obtain ⟨h1, h2⟩ := List.pairwise_cons.mp h
    show (((List.replicate p.2 p.1) ++ spread l).map f).Pairwise _
    rw [List.map_append]
    refine List.pairwise_append.mpr ⟨?_, spread_sorted h2, ?_⟩
    · rw [List.map_replicate]
      exact List.pairwise_replicate.mpr (.inr (Int.le_refl _))
    · intro a ha b hb
      obtain ⟨k, hk, rfl⟩ := List.mem_map.mp ha
      obtain ⟨j, hj, rfl⟩ := List.mem_map.mp hb
      rw [List.eq_of_mem_replicate hk]
      obtain ⟨q, hq, rfl⟩ := mem_spread hj
      exact Int.le_of_lt (h1 q hq)
theorem rise_inj {f : Nat → UInt64} : ∀ {l : List (Nat × Nat)}, Rise f l → ∀ p ∈ l, ∀ q ∈ l, val (f p.1) = val (f q.1) → f p.1 = f q.1
  | a :: l, h, p, hp, q, hq, e => by
    obtain ⟨h1, h2⟩ := List.pairwise_cons.mp h
    rcases List.mem_cons.mp hp with rfl | hp' <;> rcases List.mem_cons.mp hq with rfl | hq'
    · rfl
    · have := h1 q hq'; omega
    · have := h1 p hp'; omega
    · exact rise_inj h2 p hp' q hq' e
theorem sorted_spread {f : Nat → UInt64} {l : List (Nat × Nat)} {ks : List Nat} {ys : List UInt64} (hr : Rise f l) (hp : ks.Perm (spread l)) (hy : ys.Perm (ks.map f)) (hs : ys.Pairwise fun x y => val x ≤ val y) : ys = (spread l).map f := by
  have hp' := hy.trans (hp.map f)
  refine List.Perm.eq_of_pairwise (le := fun x y => val x ≤ val y) ?_ hs (spread_sorted hr) hp'
  intro a b ha hb h1 h2
  obtain ⟨k, hk, rfl⟩ := List.mem_map.mp (hp'.mem_iff.mp ha)
  obtain ⟨j, hj, rfl⟩ := List.mem_map.mp hb
  obtain ⟨p, hp, rfl⟩ := mem_spread hk
  obtain ⟨q, hq, rfl⟩ := mem_spread hj
  exact rise_inj hr p hp q hq (Int.le_antisymm h1 h2)
noncomputable def crowdStep (cr : List (UInt64 × Nat)) (x : UInt64) : List (UInt64 × Nat) :=
  match cr.getLast? with
  | some p => if fcmp .Eq (Float64.cmp p.1 x) then cr.dropLast ++ [(p.1, p.2 + 1)] else cr ++ [(x, 1)]
  | none => [(x, 1)]
theorem step_same {cr : List (UInt64 × Nat)} {x : UInt64} (hx : Fi x) : ∀ (n c : Nat), (List.replicate n x).foldl crowdStep (cr ++ [(x, c)]) = cr ++ [(x, c + n)]
  | 0, c => rfl
  | n + 1, c => by
    show (List.replicate n x).foldl crowdStep (crowdStep (cr ++ [(x, c)]) x) = _
    have e : crowdStep (cr ++ [(x, c)]) x = cr ++ [(x, c + 1)] := by
      simp [crowdStep, cmp_self hx, fcmp]
    rw [e, step_same hx n (c + 1)]
    congr 3
    omega
theorem crowds_of {f : Nat → UInt64} : ∀ {l : List (Nat × Nat)} {cr : List (UInt64 × Nat)}, Rise f l → (∀ p ∈ l, Fi (f p.1) ∧ 0 < p.2) → (∀ c ∈ cr.getLast?, Fi c.1 ∧ ∀ p ∈ l, val c.1 < val (f p.1)) →
    ((spread l).map f).foldl crowdStep cr = cr ++ l.map fun p => (f p.1, p.2)
  | [], cr, _, _, _ => by simp [spread]
  | p :: l, cr, h, hf, hc => by
    obtain ⟨h1, h2⟩ := List.pairwise_cons.mp h
    obtain ⟨fi, pos⟩ := hf p (.head _)
    show (((List.replicate p.2 p.1) ++ spread l).map f).foldl crowdStep cr = _
    rw [List.map_append, List.foldl_append, List.map_replicate]
    obtain ⟨n, hn⟩ : ∃ n, p.2 = n + 1 := ⟨p.2 - 1, by omega⟩
    have e : (List.replicate p.2 (f p.1)).foldl crowdStep cr = cr ++ [(f p.1, p.2)] := by
      rw [hn]
      show (List.replicate n (f p.1)).foldl crowdStep (crowdStep cr (f p.1)) = _
      have e : crowdStep cr (f p.1) = cr ++ [(f p.1, 1)] := by
        unfold crowdStep
        cases hl : cr.getLast? with
        | none => simp [List.getLast?_eq_none_iff.mp hl]
        | some c =>
          obtain ⟨fc, lt⟩ := hc c hl
          have := lt p (.head _)
          simp only [cmp_val fc fi, fcmp]
          have hne : compare (val c.1) (val (f p.1)) = .lt := by simp [compare, compareOfLessAndEq, this]
          simp [hne]
      rw [e, step_same fi]
      congr 3
      omega
    rw [e, crowds_of h2 (fun q hq => hf q (.tail _ hq)) (by
      intro c hc'
      simp at hc'
      subst hc'
      exact ⟨fi, h1⟩)]
    simp
end Mine
namespace Mine
open PySem PySem.Float64

noncomputable def finB (x : UInt64) : Bool := match decode x with | .fin .. => true | _ => false
theorem fi_of_finB {x : UInt64} (h : finB x = true) : Fi x := by
  unfold finB at h
  split at h
  · rename_i a m e he; exact ⟨a, m, e, he⟩
  · cases h
theorem hues_fin : ∀ N ∈ depths, (hcrowds N).all (fun p => finB (F p.1) && decide (0 < p.2)) = true := by decide +kernel
theorem shares_fin : ∀ N ∈ depths, (scrowds N).all (fun p => finB (G p.1) && decide (0 < p.2)) = true := by decide +kernel
theorem values_pos : ∀ N ∈ depths, (vcrowds N).all (fun p => decide (0 < p.2)) = true := by decide +kernel
theorem rise_head {f : Nat → UInt64} : ∀ {l : List (Nat × Nat)} {a : Nat × Nat}, rising f (a.1 :: l.map (·.1)) = true → Fi (f a.1) → (∀ p ∈ l, Fi (f p.1)) → (∀ p ∈ l, val (f a.1) < val (f p.1)) ∧ rising f (l.map (·.1)) = true
  | [], _, _, _, _ => ⟨fun _ h => (nomatch h), rfl⟩
  | b :: l, a, h, ha, hl => by
    simp only [List.map_cons, rising, Bool.and_eq_true, beq_iff_eq] at h
    have hb := hl b (.head _)
    have h1 : val (f a.1) < val (f b.1) := by
      have := h.1
      rw [cmp_val ha hb] at this
      simp only [Option.some.injEq, compare, compareOfLessAndEq] at this
      split at this
      · assumption
      · split at this <;> cases this
    obtain ⟨h2, h3⟩ := rise_head (a := b) h.2 hb fun p hp => hl p (.tail _ hp)
    refine ⟨fun p hp => ?_, h.2⟩
    rcases List.mem_cons.mp hp with rfl | hp
    · exact h1
    · exact Int.lt_trans h1 (h2 p hp)
theorem rise_of {f : Nat → UInt64} : ∀ {l : List (Nat × Nat)}, rising f (l.map (·.1)) = true → (∀ p ∈ l, Fi (f p.1)) → Rise f l
  | [], _, _ => .nil
  | a :: l, h, hf => by
    obtain ⟨h1, h2⟩ := rise_head h (hf a (.head _)) fun p hp => hf p (.tail _ hp)
    exact .cons h1 (rise_of h2 fun p hp => hf p (.tail _ hp))
theorem all_ok {f : Nat → UInt64} {l : List (Nat × Nat)} (h : l.all (fun p => finB (f p.1) && decide (0 < p.2)) = true) : ∀ p ∈ l, Fi (f p.1) ∧ 0 < p.2 := by
  intro p hp
  have := List.all_eq_true.mp h p hp
  simp only [Bool.and_eq_true, decide_eq_true_eq] at this
  exact ⟨fi_of_finB this.1, this.2⟩
theorem hues_ok {N : Nat} (h : N ∈ depths) : Rise F (hcrowds N) ∧ (∀ p ∈ hcrowds N, Fi (F p.1) ∧ 0 < p.2) ∧ ((cols N).map hkey).Perm (spread (hcrowds N)) :=
  have a := all_ok (hues_fin N h)
  ⟨rise_of (hues_rise N h) fun p hp => (a p hp).1, a, peel_perm (hues_perm N h)⟩
theorem shares_ok {N : Nat} (h : N ∈ depths) : Rise G (scrowds N) ∧ (∀ p ∈ scrowds N, Fi (G p.1) ∧ 0 < p.2) ∧ ((cols N).map skey).Perm (spread (scrowds N)) :=
  have a := all_ok (shares_fin N h)
  ⟨rise_of (shares_rise N h) fun p hp => (a p hp).1, a, peel_perm (shares_perm N h)⟩
end Mine
namespace Mine
open PySem PySem.W PySem.Float64

theorem rsize {a b c : Int} (hc : 0 < c) (hab : a ≤ b) : 0 ≤ Builtin.Range.rangeSize a b c ∧ Builtin.Range.rangeSize a b c ≤ b - a := by
  unfold Builtin.Range.rangeSize
  rw [if_pos hc]
  split
  · have h1 := Int.ediv_le_self (a := b - a - 1) c (by omega)
    have h2 := Int.ediv_nonneg (a := b - a - 1) (b := c) (by omega) (by omega)
    omega
  · omega
theorem rng_small {a b c : Int} (ha : 0 ≤ a) (hab : a ≤ b) (hb : b < 2 ^ 40) (hc : 0 < c) (hc' : c < 2 ^ 40) : Builtin.Range.small a b c = true := by
  have e := rsize hc hab
  unfold Builtin.Range.small
  simp only [Builtin.Range.rangeFitsLong, Bool.and_eq_true, Bool.or_eq_true, decide_eq_true_eq, beq_iff_eq]
  generalize Builtin.Range.rangeSize a b c = z at *
  refine ⟨⟨⟨⟨?_, ?_⟩, ?_⟩, ?_⟩, ?_⟩
  · (first | lia | omega)
  · (first | lia | omega)
  · (first | lia | omega)
  · (first | lia | omega)
  · right
    rw [if_pos hc]
    simp only [Bool.and_eq_true, decide_eq_true_eq]
    (first | lia | omega)
theorem rng_lt {a b c : Int} {i : Nat} (hc : 0 < c) (h : i < (Builtin.Range.rangeSize a b c).toNat) : a + (i : Int) * c < b := by
  unfold Builtin.Range.rangeSize at h
  rw [if_pos hc] at h
  split at h
  · have h1 : (i : Int) ≤ (b - a - 1) / c := by omega
    have h2 := (Int.le_ediv_iff_mul_le hc).mp h1
    omega
  · simp at h
end Mine
namespace Mine
open PySem PySem.W PySem.Calls PyProof.Rows
noncomputable def K_lawcrowds : Keys := ⟨["row", "crowds", "x"], ["sorted"], [], []⟩
noncomputable def B_lawcrowds_1 : PSs := .cons (.ifs (.bools true (.cons (.cmp .NotEq (.loc 1) (.list (.nil))) (.cons (.cmp .Eq (.sub (.sub (.loc 1) (.neg (.const (.int 1)))) (.const (.int 0))) (.loc 2)) (.nil)))) (.cons (.augSub (.sub (.loc 1) (.neg (.const (.int 1)))) (.const (.int 1)) .Add (.const (.int 1)))
  (.nil)) (.cons (.append (.loc 1) (.list (.cons (.loc 2) (.cons (.const (.int 1)) (.nil)))))
  (.nil)))
  (.nil)
noncomputable def B_lawcrowds : PSs := .cons (.assign (.name 1) (.list (.nil)))
  (.cons (.for_ (.name 2) (.call (.glob 0) (.cons (.loc 0) (.nil))) B_lawcrowds_1)
  (.cons (.ret (.loc 1))
  (.nil)))
noncomputable def gv_lawcrowds : Nat → Option AV := fun j => ([.bi .sorted] : List AV)[j]?
noncomputable def fns_lawcrowds : Fns := noFns
noncomputable def K_lawlowest : Keys := ⟨["top", "lowest", "k", "j"], ["range", "sorted"], ["j", "k"], []⟩
noncomputable def B_lawlowest_1 : PSs := .cons (.ifs (.cmp .Eq (.comp (.loc 0) none [3, 2] [] (.call (.glob 0) (.cons (.const (.int 2)) (.cons (.bin .Add (.loc 2) (.const (.int 1))) (.nil)))) (.cons (.bools true (.cons (.cmp .Eq (.bin .Mod (.loc 1) (.loc 0)) (.const (.int 0))) (.cons (.cmp .Eq (.bin .Mod (.loc 2) (.loc 0)) (.const (.int 0))) (.nil)))) (.nil))) (.list (.nil))) (.cons (.append (.loc 1) (.tuple (.cons (.bin .FloorDiv (.bin .Mult (.loc 3) (.const (.int 60))) (.loc 2)) (.cons (.loc 3) (.cons (.loc 2) (.nil))))))
  (.nil)) (.nil))
  (.nil)
noncomputable def B_lawlowest_2 : PSs := .cons (.for_ (.name 3) (.call (.glob 0) (.cons (.bin .Add (.loc 2) (.const (.int 1))) (.nil))) B_lawlowest_1)
  (.nil)
noncomputable def B_lawlowest : PSs := .cons (.assign (.name 1) (.list (.nil)))
  (.cons (.for_ (.name 2) (.call (.glob 0) (.cons (.const (.int 1)) (.cons (.bin .Add (.loc 0) (.const (.int 1))) (.nil)))) B_lawlowest_2)
  (.cons (.ret (.comp (.tuple (.cons (.loc 1) (.cons (.loc 2) (.nil)))) (some 3) [] [] (.call (.glob 1) (.cons (.loc 1) (.nil))) (.nil)))
  (.nil)))
noncomputable def gv_lawlowest : Nat → Option AV := fun j => ([.typ .range, .bi .sorted] : List AV)[j]?
noncomputable def fns_lawlowest : Fns := noFns
noncomputable def K_rgbtohsv : Keys := ⟨["r", "g", "b", "maxc", "minc", "rangec", "v", "s", "rc", "gc", "bc", "h"], ["max", "min"], [], []⟩
noncomputable def B_rgbtohsv : PSs := .cons (.assign (.name 3) (.call (.glob 0) (.cons (.loc 0) (.cons (.loc 1) (.cons (.loc 2) (.nil))))))
  (.cons (.assign (.name 4) (.call (.glob 1) (.cons (.loc 0) (.cons (.loc 1) (.cons (.loc 2) (.nil))))))
  (.cons (.assign (.name 5) (.bin .Sub (.loc 3) (.loc 4)))
  (.cons (.assign (.name 6) (.loc 3))
  (.cons (.ifs (.cmp .Eq (.loc 4) (.loc 3)) (.cons (.ret (.tuple (.cons (.const (.float 0x0)) (.cons (.const (.float 0x0)) (.cons (.loc 6) (.nil))))))
  (.nil)) (.nil))
  (.cons (.assign (.name 7) (.bin .Div (.loc 5) (.loc 3)))
  (.cons (.assign (.name 8) (.bin .Div (.bin .Sub (.loc 3) (.loc 0)) (.loc 5)))
  (.cons (.assign (.name 9) (.bin .Div (.bin .Sub (.loc 3) (.loc 1)) (.loc 5)))
  (.cons (.assign (.name 10) (.bin .Div (.bin .Sub (.loc 3) (.loc 2)) (.loc 5)))
  (.cons (.ifs (.cmp .Eq (.loc 0) (.loc 3)) (.cons (.assign (.name 11) (.bin .Sub (.loc 10) (.loc 9)))
  (.nil)) (.cons (.ifs (.cmp .Eq (.loc 1) (.loc 3)) (.cons (.assign (.name 11) (.bin .Sub (.bin .Add (.const (.float 0x4000000000000000)) (.loc 8)) (.loc 10)))
  (.nil)) (.cons (.assign (.name 11) (.bin .Sub (.bin .Add (.const (.float 0x4010000000000000)) (.loc 9)) (.loc 8)))
  (.nil)))
  (.nil)))
  (.cons (.assign (.name 11) (.bin .Mod (.bin .Div (.loc 11) (.const (.float 0x4018000000000000))) (.const (.float 0x3ff0000000000000))))
  (.cons (.ret (.tuple (.cons (.loc 11) (.cons (.loc 7) (.cons (.loc 6) (.nil))))))
  (.nil))))))))))))
noncomputable def gv_rgbtohsv : Nat → Option AV := fun j => ([.bi .max, .bi .min] : List AV)[j]?
noncomputable def fns_rgbtohsv : Fns := noFns
noncomputable def K_law : Keys := ⟨["script", "first", "top", "cells", "at", "step", "white", "hues", "shares", "values", "n", "three", "red", "green", "blue", "told", "side", "due", "sixth", "j", "k", "crowds", "i", "parts", "p", "q"], ["range", "len", "rgb_to_hsv", "isinstance", "float", "_law_lowest", "sum", "_law_crowds"], ["white", "step", "top", "k"], ["isinstance", "float"]⟩
noncomputable def B_law_1 : PSs := .cons (.assign (.name 11) (.list (.cons (.bin .Mod (.loc 10) (.bin .Add (.loc 2) (.const (.int 1)))) (.cons (.bin .Mod (.bin .FloorDiv (.loc 10) (.bin .Add (.loc 2) (.const (.int 1)))) (.bin .Add (.loc 2) (.const (.int 1)))) (.cons (.bin .FloorDiv (.loc 10) (.bin .Pow (.bin .Add (.loc 2) (.const (.int 1))) (.const (.int 2)))) (.nil))))))
  (.cons (.assign (.tup [12, 13, 14]) (.comp (.bin .Div (.bin .Add (.loc 1) (.bin .Mult (.loc 2) (.loc 0))) (.bin .Pow (.const (.int 2)) (.const (.int 48)))) none [6, 5] [] (.loc 11) (.nil)))
  (.cons (.assign (.name 15) (.call (.glob 2) (.cons (.loc 12) (.cons (.loc 13) (.cons (.loc 14) (.nil))))))
  (.cons (.append (.loc 7) (.sub (.loc 15) (.const (.int 0))))
  (.cons (.append (.loc 9) (.sub (.loc 15) (.const (.int 2))))
  (.cons (.assign (.tup [12, 13, 14]) (.comp (.bin .Div (.bin .Mult (.loc 1) (.loc 0)) (.bin .Pow (.const (.int 2)) (.const (.int 48)))) none [5] [] (.loc 11) (.nil)))
  (.cons (.append (.loc 8) (.sub (.call (.glob 2) (.cons (.loc 12) (.cons (.loc 13) (.cons (.loc 14) (.nil))))) (.const (.int 1))))
  (.nil)))))))
noncomputable def B_law_2 : PSs := .cons (.append (.loc 17) (.tuple (.cons (.bin .Add (.bin .Mult (.loc 18) (.loc 20)) (.loc 19)) (.cons (.loc 20) (.cons (.call (.glob 6) (.cons (.comp (.bin .Sub (.bin .Add (.loc 1) (.const (.int 1))) (.bin .Mult (.loc 2) (.loc 0))) none [2, 20] [] (.call (.glob 0) (.cons (.const (.int 1)) (.cons (.bin .Add (.bin .FloorDiv (.loc 2) (.loc 20)) (.const (.int 1))) (.nil)))) (.nil)) (.nil))) (.nil))))))
  (.nil)
noncomputable def B_law_3 : PSs := .cons (.for_ (.tup [19, 20]) (.slTo (.call (.glob 5) (.cons (.loc 2) (.nil))) (.neg (.const (.int 1)))) B_law_2)
  (.nil)
noncomputable def B_law_4 : PSs := .cons (.assign (.name 23) (.bin .Mult (.sub (.sub (.loc 17) (.loc 22)) (.const (.int 0))) (.bin .Pow (.const (.int 2)) (.const (.int 48)))))
  (.cons (.assign (.name 20) (.sub (.sub (.loc 17) (.loc 22)) (.const (.int 1))))
  (.cons (.ifs (.bools false (.cons (.cmp .Lt (.sub (.sub (.loc 21) (.loc 22)) (.const (.int 0))) (.bin .Div (.bin .FloorDiv (.loc 23) (.loc 20)) (.bin .Mult (.const (.int 6)) (.bin .Pow (.const (.int 2)) (.const (.int 48)))))) (.cons (.cmp .Gt (.sub (.sub (.loc 21) (.loc 22)) (.const (.int 0))) (.bin .Div (.neg (.bin .FloorDiv (.neg (.loc 23)) (.loc 20))) (.bin .Mult (.const (.int 6)) (.bin .Pow (.const (.int 2)) (.const (.int 48)))))) (.nil)))) (.cons (.ret (.const (.bool false)))
  (.nil)) (.nil))
  (.nil)))
noncomputable def B_law_5 : PSs := .cons (.append (.loc 17) (.list (.cons (.bin .Div (.loc 24) (.loc 25)) (.cons (.bin .Mult (.bin .Mult (.const (.int 6)) (.loc 24)) (.call (.glob 6) (.cons (.call (.glob 0) (.cons (.bin .Add (.bin .FloorDiv (.loc 2) (.loc 25)) (.const (.int 1))) (.nil))) (.nil)))) (.nil)))))
  (.nil)
noncomputable def B_law_6 : PSs := .cons (.assign (.name 5) (.bin .Add (.const (.int 1)) (.bin .Mod (.sub (.loc 3) (.loc 4)) (.bin .Pow (.const (.int 2)) (.const (.int 44))))))
  (.cons (.assign (.name 6) (.bin .Mod (.sub (.loc 3) (.bin .Add (.loc 4) (.const (.int 1)))) (.bin .Pow (.const (.int 2)) (.const (.int 47)))))
  (.cons (.swap [7, 8, 9] (.tuple (.cons (.list (.nil)) (.cons (.list (.nil)) (.cons (.list (.nil)) (.nil))))))
  (.cons (.for_ (.name 10) (.call (.glob 0) (.cons (.bin .Pow (.bin .Add (.loc 2) (.const (.int 1))) (.const (.int 3))) (.nil))) B_law_1)
  (.cons (.assign (.name 16) (.bin .Add (.loc 2) (.const (.int 1))))
  (.cons (.ifs (.cmp .NotEq (.list (.cons (.sub (.loc 7) (.bin .Add (.const (.int 2)) (.loc 16))) (.cons (.sub (.loc 7) (.bin .Add (.const (.int 1)) (.bin .Mult (.const (.int 2)) (.loc 16)))) (.cons (.sub (.loc 7) (.bin .Add (.const (.int 1)) (.bin .Mult (.const (.int 2)) (.bin .Pow (.loc 16) (.const (.int 2)))))) (.nil))))) (.list (.cons (.bin .Div (.const (.int 1)) (.const (.int 12))) (.cons (.bin .Div (.const (.int 1)) (.const (.int 4))) (.cons (.bin .Div (.const (.int 3)) (.const (.int 4))) (.nil)))))) (.cons (.ret (.const (.bool false)))
  (.nil)) (.nil))
  (.cons (.ifs (.cmp .NotEq (.comp (.loc 0) none [] [3, 4] (.bin .Add (.bin .Add (.loc 7) (.loc 8)) (.loc 9)) (.cons (.not (.call (.glob 0) (.cons (.loc 0) (.cons (.glob 1) (.nil))))) (.nil))) (.list (.nil))) (.cons (.ret (.const (.bool false)))
  (.nil)) (.nil))
  (.cons (.assign (.name 17) (.list (.nil)))
  (.cons (.for_ (.name 18) (.call (.glob 0) (.cons (.const (.int 6)) (.nil))) B_law_3)
  (.cons (.assign (.name 21) (.call (.glob 7) (.cons (.loc 7) (.nil))))
  (.cons (.ifs (.cmp .NotEq (.comp (.loc 1) (some 2) [] [] (.loc 21) (.nil)) (.bin .Add (.list (.cons (.bin .Add (.bin .Add (.sub (.sub (.loc 17) (.const (.int 0))) (.const (.int 2))) (.loc 2)) (.const (.int 1))) (.nil))) (.comp (.loc 2) (some 3) [] [] (.slFrom (.loc 17) (.const (.int 1))) (.nil)))) (.cons (.ret (.const (.bool false)))
  (.nil)) (.nil))
  (.cons (.for_ (.name 22) (.call (.glob 0) (.cons (.call (.glob 1) (.cons (.loc 17) (.nil))) (.nil))) B_law_4)
  (.cons (.assign (.name 17) (.list (.cons (.list (.cons (.const (.float 0x0)) (.cons (.bin .Add (.loc 2) (.const (.int 1))) (.nil)))) (.nil))))
  (.cons (.for_ (.tup [24, 25]) (.slFrom (.call (.glob 5) (.cons (.loc 2) (.nil))) (.const (.int 1))) B_law_5)
  (.cons (.ifs (.cmp .NotEq (.call (.glob 7) (.cons (.loc 8) (.nil))) (.loc 17)) (.cons (.ret (.const (.bool false)))
  (.nil)) (.nil))
  (.cons (.ifs (.cmp .NotEq (.call (.glob 7) (.cons (.loc 9) (.nil))) (.comp (.list (.cons (.bin .Div (.bin .Add (.loc 1) (.bin .Mult (.loc 2) (.loc 0))) (.bin .Pow (.const (.int 2)) (.const (.int 48)))) (.cons (.bin .Sub (.bin .Pow (.bin .Add (.loc 0) (.const (.int 1))) (.const (.int 3))) (.bin .Pow (.loc 0) (.const (.int 3)))) (.nil)))) none [6, 5] [] (.call (.glob 0) (.cons (.bin .Add (.loc 2) (.const (.int 1))) (.nil))) (.nil))) (.cons (.ret (.const (.bool false)))
  (.nil)) (.nil))
  (.nil))))))))))))))))
noncomputable def B_law : PSs := .cons (.assign (.name 0) (.slTo (.loc 0) (.const (.int 3))))
  (.cons (.assign (.name 1) (.ite (.cmp .NotEq (.loc 0) (.list (.nil))) (.sub (.loc 0) (.const (.int 0))) (.const (.int 0))))
  (.cons (.assign (.name 2) (.bin .Add (.const (.int 2)) (.bin .Mod (.loc 1) (.const (.int 5)))))
  (.cons (.assign (.name 3) (.bin .Add (.bin .Add (.list (.cons (.const (.int 1234567)) (.cons (.const (.int 7654321)) (.nil)))) (.slFrom (.loc 0) (.const (.int 1)))) (.list (.cons (.const (.int 0)) (.nil)))))
  (.cons (.for_ (.name 4) (.call (.glob 0) (.cons (.const (.int 0)) (.cons (.bin .Sub (.call (.glob 1) (.cons (.loc 3) (.nil))) (.const (.int 1))) (.cons (.const (.int 2)) (.nil))))) B_law_6)
  (.cons (.ret (.const (.bool true)))
  (.nil))))))
noncomputable def gv_law : Nat → Option AV := fun j => ([.typ .range, .bi .len, .fn 2, .bi .isinstance, .typ .float, .fn 1, .bi .sum, .fn 0] : List AV)[j]?
noncomputable def fns_law : Fns := fun k args objs Q => (k = 2 ∧ fnW gv_rgbtohsv fns_rgbtohsv 3 B_rgbtohsv args objs Q) ∨ (k = 1 ∧ fnW gv_lawlowest fns_lawlowest 1 B_lawlowest args objs Q) ∨ (k = 0 ∧ fnW gv_lawcrowds fns_lawcrowds 1 B_lawcrowds args objs Q)
theorem some_lawcrowds : ((recsOf V06).find? (fun e => e.name == ("_law_crowds" : Str))).isSome = true := by decide +kernel
noncomputable def d_lawcrowds : DefRec := ((recsOf V06).find? (fun e => e.name == ("_law_crowds" : Str))).get some_lawcrowds
theorem d_lawcrowds_name : d_lawcrowds.name = "_law_crowds" := by decide +kernel
theorem def_lawcrowds (P : PF) (hp : P.p = V06) : DefIs P d_lawcrowds 1 K_lawcrowds B_lawcrowds where
  mem := by rw [hp]; exact List.mem_of_find?_eq_some (Option.some_get some_lawcrowds).symm
  body := by decide +kernel
  nodup := by decide +kernel
  params := by
    intro vals hv pm cdv doc
    match vals, hv with
    | [a], _ => kernel_rfl
  hnp := by decide +kernel
  plain := by decide +kernel
  locs := by decide +kernel
  globs := by decide +kernel
  kind := by decide +kernel
  gen := by decide +kernel
  co := by decide +kernel
  cells := ⟨by decide +kernel, by decide +kernel⟩
theorem some_lawlowest : ((recsOf V06).find? (fun e => e.name == ("_law_lowest" : Str))).isSome = true := by decide +kernel
noncomputable def d_lawlowest : DefRec := ((recsOf V06).find? (fun e => e.name == ("_law_lowest" : Str))).get some_lawlowest
theorem d_lawlowest_name : d_lawlowest.name = "_law_lowest" := by decide +kernel
theorem def_lawlowest (P : PF) (hp : P.p = V06) : DefIs P d_lawlowest 1 K_lawlowest B_lawlowest where
  mem := by rw [hp]; exact List.mem_of_find?_eq_some (Option.some_get some_lawlowest).symm
  body := by decide +kernel
  nodup := by decide +kernel
  params := by
    intro vals hv pm cdv doc
    match vals, hv with
    | [a], _ => kernel_rfl
  hnp := by decide +kernel
  plain := by decide +kernel
  locs := by decide +kernel
  globs := by decide +kernel
  kind := by decide +kernel
  gen := by decide +kernel
  co := by decide +kernel
  cells := ⟨by decide +kernel, by decide +kernel⟩
theorem some_rgbtohsv : ((recsOf V06).find? (fun e => e.name == ("rgb_to_hsv" : Str))).isSome = true := by decide +kernel
noncomputable def d_rgbtohsv : DefRec := ((recsOf V06).find? (fun e => e.name == ("rgb_to_hsv" : Str))).get some_rgbtohsv
theorem d_rgbtohsv_name : d_rgbtohsv.name = "rgb_to_hsv" := by decide +kernel
theorem def_rgbtohsv (P : PF) (hp : P.p = V06) : DefIs P d_rgbtohsv 3 K_rgbtohsv B_rgbtohsv where
  mem := by rw [hp]; exact List.mem_of_find?_eq_some (Option.some_get some_rgbtohsv).symm
  body := by decide +kernel
  nodup := by decide +kernel
  params := by
    intro vals hv pm cdv doc
    match vals, hv with
    | [a, b, c], _ => kernel_rfl
  hnp := by decide +kernel
  plain := by decide +kernel
  locs := by decide +kernel
  globs := by decide +kernel
  kind := by decide +kernel
  gen := by decide +kernel
  co := by decide +kernel
  cells := ⟨by decide +kernel, by decide +kernel⟩
structure Facts (P : PF) (fa : FA) : Prop where
  g_lawcrowds : GOK P fa K_lawcrowds.globs gv_lawcrowds
  g_lawlowest : GOK P fa K_lawlowest.globs gv_lawlowest
  g_rgbtohsv : GOK P fa K_rgbtohsv.globs gv_rgbtohsv
  g_law : GOK P fa K_law.globs gv_law
  at_lawcrowds : P.mg d_lawcrowds.name = some (.ref (fa.addr 0))
  at_lawlowest : P.mg d_lawlowest.name = some (.ref (fa.addr 1))
  at_rgbtohsv : P.mg d_rgbtohsv.name = some (.ref (fa.addr 2))
  p : P.p = V06
theorem facts {prog : Program} {w : World} {mean : ExcName → Option Value} {mg mb : Str → Option Value} {h : Heap}
    (T : Top V06 (looseW V06 []) mean mg mb h) (V : LooseAre [] mg h) :
    Facts ⟨prog, w, V06, looseW V06 [], mean, mg, mb⟩ (faOf mg h ["_law_crowds", "_law_lowest", "rgb_to_hsv"]) := by
  have h_lawcrowds := fa_at T (def_lawcrowds ⟨prog, w, V06, [], mean, mg, mb⟩ rfl).mem (names := ["_law_crowds", "_law_lowest", "rgb_to_hsv"]) (k := 0) (by rw [d_lawcrowds_name]; rfl)
  have h_lawlowest := fa_at T (def_lawlowest ⟨prog, w, V06, [], mean, mg, mb⟩ rfl).mem (names := ["_law_crowds", "_law_lowest", "rgb_to_hsv"]) (k := 1) (by rw [d_lawlowest_name]; rfl)
  have h_rgbtohsv := fa_at T (def_rgbtohsv ⟨prog, w, V06, [], mean, mg, mb⟩ rfl).mem (names := ["_law_crowds", "_law_lowest", "rgb_to_hsv"]) (k := 2) (by rw [d_rgbtohsv_name]; rfl)
  refine ⟨?_, ?_, ?_, ?_, h_lawcrowds.1, h_lawlowest.1, h_rgbtohsv.1, rfl⟩
  · refine ⟨fun j x v hx hg => ?_⟩
    match j, hx, hg with
    | 0, hx, hg => cases hx; cases hg; exact ⟨by decide +kernel, .builtin "sorted", rfl, .inr (glob_bi T (v := .builtin "sorted") (by decide +kernel) (by decide +kernel) (by decide +kernel) (by decide +kernel) (by decide +kernel) (by decide +kernel) (by decide +kernel))⟩
    | j + 1, hx, hg => cases hg
  · refine ⟨fun j x v hx hg => ?_⟩
    match j, hx, hg with
    | 0, hx, hg => cases hx; cases hg; exact ⟨by decide +kernel, .type "range", rfl, .inr (glob_bi T (v := .type "range") (by decide +kernel) (by decide +kernel) (by decide +kernel) (by decide +kernel) (by decide +kernel) (by decide +kernel) (by decide +kernel))⟩
    | 1, hx, hg => cases hx; cases hg; exact ⟨by decide +kernel, .builtin "sorted", rfl, .inr (glob_bi T (v := .builtin "sorted") (by decide +kernel) (by decide +kernel) (by decide +kernel) (by decide +kernel) (by decide +kernel) (by decide +kernel) (by decide +kernel))⟩
    | j + 2, hx, hg => cases hg
  · refine ⟨fun j x v hx hg => ?_⟩
    match j, hx, hg with
    | 0, hx, hg => cases hx; cases hg; exact ⟨by decide +kernel, .builtin "max", rfl, .inr (glob_bi T (v := .builtin "max") (by decide +kernel) (by decide +kernel) (by decide +kernel) (by decide +kernel) (by decide +kernel) (by decide +kernel) (by decide +kernel))⟩
    | 1, hx, hg => cases hx; cases hg; exact ⟨by decide +kernel, .builtin "min", rfl, .inr (glob_bi T (v := .builtin "min") (by decide +kernel) (by decide +kernel) (by decide +kernel) (by decide +kernel) (by decide +kernel) (by decide +kernel) (by decide +kernel))⟩
    | j + 2, hx, hg => cases hg
  · refine ⟨fun j x v hx hg => ?_⟩
    match j, hx, hg with
    | 0, hx, hg => cases hx; cases hg; exact ⟨by decide +kernel, .type "range", rfl, .inr (glob_bi T (v := .type "range") (by decide +kernel) (by decide +kernel) (by decide +kernel) (by decide +kernel) (by decide +kernel) (by decide +kernel) (by decide +kernel))⟩
    | 1, hx, hg => cases hx; cases hg; exact ⟨by decide +kernel, .builtin "len", rfl, .inr (glob_bi T (v := .builtin "len") (by decide +kernel) (by decide +kernel) (by decide +kernel) (by decide +kernel) (by decide +kernel) (by decide +kernel) (by decide +kernel))⟩
    | 2, hx, hg => cases hx; cases hg; refine ⟨by decide +kernel, .ref _, ⟨rfl, h_rgbtohsv.2⟩, .inl ?_⟩; have := h_rgbtohsv.1; rw [d_rgbtohsv_name] at this; exact this
    | 3, hx, hg => cases hx; cases hg; exact ⟨by decide +kernel, .builtin "isinstance", rfl, .inr (glob_bi T (v := .builtin "isinstance") (by decide +kernel) (by decide +kernel) (by decide +kernel) (by decide +kernel) (by decide +kernel) (by decide +kernel) (by decide +kernel))⟩
    | 4, hx, hg => cases hx; cases hg; exact ⟨by decide +kernel, .type "float", rfl, .inr (glob_bi T (v := .type "float") (by decide +kernel) (by decide +kernel) (by decide +kernel) (by decide +kernel) (by decide +kernel) (by decide +kernel) (by decide +kernel))⟩
    | 5, hx, hg => cases hx; cases hg; refine ⟨by decide +kernel, .ref _, ⟨rfl, h_lawlowest.2⟩, .inl ?_⟩; have := h_lawlowest.1; rw [d_lawlowest_name] at this; exact this
    | 6, hx, hg => cases hx; cases hg; exact ⟨by decide +kernel, .builtin "sum", rfl, .inr (glob_bi T (v := .builtin "sum") (by decide +kernel) (by decide +kernel) (by decide +kernel) (by decide +kernel) (by decide +kernel) (by decide +kernel) (by decide +kernel))⟩
    | 7, hx, hg => cases hx; cases hg; refine ⟨by decide +kernel, .ref _, ⟨rfl, h_lawcrowds.2⟩, .inl ?_⟩; have := h_lawcrowds.1; rw [d_lawcrowds_name] at this; exact this
    | j + 8, hx, hg => cases hg
theorem ok_lawcrowds {P : PF} {fa : FA} (X : Facts P fa) (r : Nat) : ∀ C : Cx, C.K = K_lawcrowds → C.gval = gv_lawcrowds → C.fns = fns_lawcrowds → C.fa = fa → FrameOf P C (r + 0) → (∀ x, C.env.kindOf x = d_lawcrowds.scope.names.lookup x) → (∃ b names, C.env.cells = cellsFrom b names [] ∧ CellsOk C.K names) → CxOK C := by
  intro C hK hgv hf hfa Fo hk hc
  have D := def_lawcrowds P X.p
  refine frame_ok Fo (by rw [hK, hgv, hfa]; exact X.g_lawcrowds) (by rw [hK]; exact D.nodup) (by rw [hK]; intro x hx; rw [hk]; exact D.locs x hx) (by rw [hK]; intro x hx hf; rw [hk]; exact D.globs x hx hf) hc ?_
  intro fz k args cargs σ Q s m ad news T R ra q
  rw [hf] at q
  exact q.elim
theorem ok_lawlowest {P : PF} {fa : FA} (X : Facts P fa) (r : Nat) : ∀ C : Cx, C.K = K_lawlowest → C.gval = gv_lawlowest → C.fns = fns_lawlowest → C.fa = fa → FrameOf P C (r + 0) → (∀ x, C.env.kindOf x = d_lawlowest.scope.names.lookup x) → (∃ b names, C.env.cells = cellsFrom b names [] ∧ CellsOk C.K names) → CxOK C := by
  intro C hK hgv hf hfa Fo hk hc
  have D := def_lawlowest P X.p
  refine frame_ok Fo (by rw [hK, hgv, hfa]; exact X.g_lawlowest) (by rw [hK]; exact D.nodup) (by rw [hK]; intro x hx; rw [hk]; exact D.locs x hx) (by rw [hK]; intro x hx hf; rw [hk]; exact D.globs x hx hf) hc ?_
  intro fz k args cargs σ Q s m ad news T R ra q
  rw [hf] at q
  exact q.elim
theorem ok_rgbtohsv {P : PF} {fa : FA} (X : Facts P fa) (r : Nat) : ∀ C : Cx, C.K = K_rgbtohsv → C.gval = gv_rgbtohsv → C.fns = fns_rgbtohsv → C.fa = fa → FrameOf P C (r + 0) → (∀ x, C.env.kindOf x = d_rgbtohsv.scope.names.lookup x) → (∃ b names, C.env.cells = cellsFrom b names [] ∧ CellsOk C.K names) → CxOK C := by
  intro C hK hgv hf hfa Fo hk hc
  have D := def_rgbtohsv P X.p
  refine frame_ok Fo (by rw [hK, hgv, hfa]; exact X.g_rgbtohsv) (by rw [hK]; exact D.nodup) (by rw [hK]; intro x hx; rw [hk]; exact D.locs x hx) (by rw [hK]; intro x hx hf; rw [hk]; exact D.globs x hx hf) hc ?_
  intro fz k args cargs σ Q s m ad news T R ra q
  rw [hf] at q
  exact q.elim
theorem ok_law {P : PF} {fa : FA} (X : Facts P fa) (r : Nat) : ∀ C : Cx, C.K = K_law → C.gval = gv_law → C.fns = fns_law → C.fa = fa → FrameOf P C (r + 1) → (∀ x ∈ K_law.names, (x == ("__debug__" : Str)) = false ∧ (x ∉ K_law.cells → C.env.kindOf x = some .local) ∧ (x ∈ K_law.cells → C.env.kindOf x = some .cell)) → (∀ x ∈ K_law.globs, x ∉ K_law.far → C.env.kindOf x = some .globalImplicit) → (∃ b names, C.env.cells = cellsFrom b names [] ∧ CellsOk K_law names) → CxOK C := by
  intro C hK hgv hf hfa Fo hl hg hc
  refine frame_ok Fo (by rw [hK, hgv, hfa]; exact X.g_law) (by rw [hK]; decide +kernel) (by rw [hK]; exact hl) (by rw [hK]; exact hg) (by rw [hK]; exact hc) ?_
  intro fz k args cargs σ Q s m ad news T R ra q
  rw [hf] at q
  rcases q with ⟨rfl, q⟩ | ⟨rfl, q⟩ | ⟨rfl, q⟩
  · exact call_def (C := { C with fz := fz }) (room := r + 0) (Fo.fz fz) (def_rgbtohsv P X.p) (by show _ = some (Value.ref (C.fa.addr _)); rw [hfa]; exact X.at_rgbtohsv) (fun C' h1 h2 h3 h4 h5 h6 h7 => ok_rgbtohsv X r C' h1 h2 h3 (h4.trans hfa) h5 h6 h7) args cargs σ Q s m ad news T R ra q
  · exact call_def (C := { C with fz := fz }) (room := r + 0) (Fo.fz fz) (def_lawlowest P X.p) (by show _ = some (Value.ref (C.fa.addr _)); rw [hfa]; exact X.at_lawlowest) (fun C' h1 h2 h3 h4 h5 h6 h7 => ok_lawlowest X r C' h1 h2 h3 (h4.trans hfa) h5 h6 h7) args cargs σ Q s m ad news T R ra q
  · exact call_def (C := { C with fz := fz }) (room := r + 0) (Fo.fz fz) (def_lawcrowds P X.p) (by show _ = some (Value.ref (C.fa.addr _)); rw [hfa]; exact X.at_lawcrowds) (fun C' h1 h2 h3 h4 h5 h6 h7 => ok_lawcrowds X r C' h1 h2 h3 (h4.trans hfa) h5 h6 h7) args cargs σ Q s m ad news T R ra q
end Mine
namespace Mine
open PySem PySem.W PySem.Float64

local macro_rules | `(tactic| walk_at "ev loc") => `(tactic| first | exact loc_set_eq | ((with_reducible refine loc_set_ne ?hd ?_); (case hd => decide); walk_at "ev loc") | (with_reducible refine loc_alloc ?_; walk_at "ev loc") | assumption | exact rfl)
local macro_rules | `(tactic| walk_at "ev objs") => `(tactic| first | ((with_reducible refine' objs_set ?hx); (case hx => walk_at "ev objs")) | ((with_reducible refine' objs_alloc ?hx); (case hx => walk_at "ev objs")) | assumption | exact rfl)
local macro_rules | `(tactic| walk_at "ev") => `(tactic| first
  | with_reducible apply i_const
  | ((with_reducible refine' i_loc ?hl ?_); (case hl => walk_at "ev loc"))
  | ((with_reducible refine' i_glob ?hl ?_); (case hl => exact rfl); (try refine ⟨rfl, ?_⟩))
  | (with_reducible first | apply i_bin | apply i_cmp | apply i_call | apply i_es_cons | apply i_es_nil | apply i_assign | apply i_assignT | apply i_if | apply b_name | apply i_ret | apply i_nil | apply i_truth | apply i_bools | apply i_br_nil | refine i_and ?_ ?_ | refine i_or ?_ ?_ | apply i_ite | apply i_sub | apply i_slTo | apply i_slFrom | apply i_tuple | apply i_list | apply i_neg | apply i_not | apply o_addI | apply o_subI | apply o_addF | apply o_subF | apply o_mulF | apply k_range1 | apply k_range2)
  | ((with_reducible first | apply c_int | apply c_flt); exact rfl))

theorem mem_frozen {j L : Nat} {own : List Nat} (h : j ∈ own) (hne : j ≠ L) : j ∈ frozen (.lst L) own := List.mem_filter.mpr ⟨h, by simpa using hne⟩
theorem mem_thawed {j L : Nat} {own own' : List Nat} (h : j ∈ own') : j ∈ thawed (.lst L) own own' := by
  show j ∈ if own.contains L = true then L :: own' else own'
  split
  · exact List.mem_cons_of_mem _ h
  · exact h
theorem i_append {g : Nat → Option AV} {fns : Fns} {σ : St} {P : Fl → St → Prop} {o e : PE} {ss : PSs} (h : wpE g fns o σ fun v σ₁ => ∃ i, (v = .lst i ∧ i ∈ σ₁.own) ∧ wpE g fns e σ₁ fun u σ₂ => ∃ l, (σ₂.objs[i]? = some l ∧ i ∈ σ₂.own ∧ l.length < 2 ^ 20) ∧ wpSs g fns ss { σ₂ with objs := σ₂.objs.set i (l ++ [u]) } P) : wpSs g fns (.cons (.append o e) ss) σ P := h
structure CrAt (o : List (List AV)) (own : List Nat) (c : Nat) (ids : List Nat) (cr : List (UInt64 × Nat)) : Prop where
  at_ : o[c]? = some (ids.map .lst)
  len : ids.length = cr.length
  it : ∀ (j : Nat) id p, ids[j]? = some id → cr[j]? = some p → o[id]? = some [.float p.1, .int p.2] ∧ id ∈ own
  up : ids.Pairwise (· < ·)
  far : ∀ id ∈ ids, c + 1 < id
theorem CrAt.mono {o : List (List AV)} {own own' : List Nat} {c : Nat} {ids : List Nat} {cr : List (UInt64 × Nat)} (h : CrAt o own c ids cr) (k : ∀ id ∈ ids, id ∈ own → id ∈ own') : CrAt o own' c ids cr :=
  ⟨h.at_, h.len, fun j id p h1 h2 => ⟨(h.it j id p h1 h2).1, k id (List.mem_of_getElem? h1) (h.it j id p h1 h2).2⟩, h.up, h.far⟩
theorem CrAt.lt {o : List (List AV)} {own : List Nat} {c : Nat} {ids : List Nat} {cr : List (UInt64 × Nat)} (h : CrAt o own c ids cr) : ∀ id ∈ ids, id < o.length := by
  intro id hid
  obtain ⟨j, hj⟩ := List.mem_iff_getElem?.mp hid
  have hj' := (List.getElem?_eq_some_iff.mp hj).1
  obtain ⟨p, hp⟩ := get_of cr (n := j) (by rw [← h.len]; exact hj')
  exact (List.getElem?_eq_some_iff.mp (h.it j id p hj hp).1).1
theorem CrAt.push {o : List (List AV)} {own own' : List Nat} {c : Nat} {ids : List Nat} {cr : List (UInt64 × Nat)} {x : UInt64} (h : CrAt o own c ids cr) (hc : c + 1 < o.length) (ho : ∀ i ∈ own, i ∈ own') (hn : o.length + 1 ∈ own') :
    CrAt ((o ++ [[]] ++ [[AV.float x, AV.int 1]]).set c (ids.map AV.lst ++ [AV.lst (o.length + 1)])) own' c (ids ++ [o.length + 1]) (cr ++ [(x, 1)]) where
  at_ := by rw [get_set (get_app (get_app h.at_))]; simp
  len := by simp [h.len]
  it := by
    intro j id p h1 h2
    by_cases hj : j < ids.length
    · rw [List.getElem?_append_left hj] at h1
      rw [List.getElem?_append_left (by rw [← h.len]; exact hj)] at h2
      obtain ⟨q1, q2⟩ := h.it j id p h1 h2
      exact ⟨get_set_ne (by have := h.far id (List.mem_of_getElem? h1); (first | lia | omega)) (get_app (get_app q1)), ho _ q2⟩
    · have hj2 := (List.getElem?_eq_some_iff.mp h1).1
      simp only [List.length_append, List.length_singleton] at hj2
      have ej : j = ids.length := by (first | lia | omega)
      subst ej
      rw [get_last] at h1
      rw [h.len, get_last] at h2
      cases h1; cases h2
      refine ⟨get_set_ne (by (first | lia | omega)) ?_, hn⟩
      have : (o ++ [[]]).length = o.length + 1 := by simp
      rw [← this]
      exact get_last
  up := List.pairwise_append.mpr ⟨h.up, List.pairwise_singleton _ _, fun a ha b hb => by rw [List.mem_singleton.mp hb]; have := h.lt a ha; (first | lia | omega)⟩
  far := by
    intro id hid
    rcases List.mem_append.mp hid with hid | hid
    · exact h.far id hid
    · rw [List.mem_singleton.mp hid]; (first | lia | omega)
theorem CrAt.bump {o : List (List AV)} {own own' : List Nat} {c : Nat} {ids : List Nat} {cr : List (UInt64 × Nat)} {x : UInt64} {n id : Nat} (h : CrAt o own c (ids ++ [id]) (cr ++ [(x, n)])) (ho : ∀ i ∈ own, i ∈ own') :
    CrAt ((o ++ [[]]).set id [.float x, .int (n + 1 : Nat)]) own' c (ids ++ [id]) (cr ++ [(x, n + 1)]) := by
  have hl : ids.length = cr.length := by have := h.len; simpa using this
  have hid : ids.length < (ids ++ [id]).length := by simp
  obtain ⟨q1, q2⟩ := h.it ids.length id (x, n) get_last (by rw [hl]; exact get_last)
  obtain ⟨u1, u2, u3⟩ := List.pairwise_append.mp h.up
  refine ⟨get_set_ne (by have := h.far id (by simp); (first | lia | omega)) (get_app h.at_), by simp [hl], ?_, h.up, h.far⟩
  intro j id' p h1 h2
  by_cases hj : j < ids.length
  · have h1' := h1
    have h2' := h2
    rw [List.getElem?_append_left hj] at h1
    rw [List.getElem?_append_left (by rw [← hl]; exact hj)] at h2
    obtain ⟨r1, r2⟩ := h.it j id' p h1' (by rw [List.getElem?_append_left (by rw [← hl]; exact hj)]; exact h2)
    exact ⟨get_set_ne (by have := u3 id' (List.mem_of_getElem? h1) id (by simp); (first | lia | omega)) (get_app r1), ho _ r2⟩
  · have hj2 := (List.getElem?_eq_some_iff.mp h1).1
    simp only [List.length_append, List.length_singleton] at hj2
    have ej : j = ids.length := by (first | lia | omega)
    subst ej
    rw [get_last] at h1
    rw [hl, get_last] at h2
    cases h1; cases h2
    exact ⟨get_set (get_app q1), ho _ q2⟩
theorem crowd_turn {σ : St} {c : Nat} {ids : List Nat} {cr : List (UInt64 × Nat)} {x : UInt64} {P : Fl → St → Prop} (f1 : σ.loc 1 = some (.lst c)) (f2 : σ.loc 2 = some (.float x)) (A : CrAt σ.objs σ.own c ids cr) (hc : c ∈ σ.own) (hl : c + 1 < σ.objs.length) (hz : cr.length < 2 ^ 20)
    (hP : ∀ σ' ids', σ'.loc = σ.loc → CrAt σ'.objs σ'.own c ids' (crowdStep cr x) → c ∈ σ'.own → σ.objs.length ≤ σ'.objs.length → (∀ (j : Nat) q, j < c → σ.objs[j]? = some q → σ'.objs[j]? = some q) → P .next σ') : wpSs gv_lawcrowds fns_lawcrowds B_lawcrowds_1 σ P := by
  unfold B_lawcrowds_1
  have fresh : crowdStep cr x = cr ++ [(x, 1)] → ∀ os, os = σ.objs ++ [[]] → wpSs gv_lawcrowds fns_lawcrowds (.cons (.append (.loc 1) (.list (.cons (.loc 2) (.cons (.const (.int 1)) (.nil))))) .nil) { σ with objs := os, own := σ.objs.length :: σ.own } P := by
    intro hs os hos
    subst hos
    refine i_append (i_loc (by exact f1) ⟨c, ⟨rfl, List.mem_cons_of_mem _ hc⟩, ?_⟩)
    repeat' (first | walk_at "ev" | dsimp only)
    refine ⟨show 2 ≤ sizeLine by decide, _, rfl, _, ⟨get_app (get_app A.at_), List.mem_cons_of_mem _ (List.mem_cons_of_mem _ hc), by rw [List.length_map, A.len]; exact hz⟩, ?_⟩
    refine i_nil (hP _ (ids ++ [σ.objs.length + 1]) rfl ?_ (List.mem_cons_of_mem _ (List.mem_cons_of_mem _ hc)) (by simp [St.alloc]) ?_)
    · rw [hs]
      have := A.push (x := x) (own' := (σ.objs.length + 1) :: σ.objs.length :: σ.own) hl (fun i hi => List.mem_cons_of_mem _ (List.mem_cons_of_mem _ hi)) (List.mem_cons_self ..)
      simpa [St.alloc] using this
    · intro j q hj hq
      exact get_set_ne (by (first | lia | omega)) (get_app (get_app hq))
  cases hcr : cr.getLast? with
  | none =>
    have e0 := List.getLast?_eq_none_iff.mp hcr
    subst e0
    have ei : ids = [] := List.eq_nil_of_length_eq_zero A.len
    subst ei
    repeat' (first | walk_at "ev" | dsimp only)
    refine l_new rfl (show 0 ≤ sizeLine by decide) (c_ne rfl (get_app A.at_) get_last trivial ?_)
    repeat' (first | walk_at "ev" | dsimp only)
    · intro hf; cases hf
    · intro _
      repeat' (first | walk_at "ev" | dsimp only)
      refine ⟨(by intro hf; cases hf), fun _ => ?_⟩
      exact fresh rfl _ rfl
  | some p =>
    obtain ⟨y, n⟩ := p
    obtain ⟨c0, rfl⟩ := List.getLast?_eq_some_iff.mp hcr
    have ecr : (c0 ++ [(y, n)]).dropLast = c0 := by simp
    have eid : ∃ i0 id, ids = i0 ++ [id] := by
      have : ids ≠ [] := by
        intro h
        have h2 := A.len
        rw [h] at h2
        rw [List.eq_nil_of_length_eq_zero h2.symm] at hcr
        cases hcr
      exact ⟨_, _, (List.dropLast_concat_getLast this).symm⟩
    obtain ⟨i0, id, rfl⟩ := eid
    have hi0 : i0.length = c0.length := by have := A.len; simp only [List.length_append, List.length_singleton] at this; (first | lia | omega)
    obtain ⟨o1, o2⟩ := A.it i0.length id (y, n) get_last (by rw [hi0]; exact get_last)
    have hlast : ((i0 ++ [id]).map AV.lst).getLast? = some (.lst id) := by simp
    repeat' (first | walk_at "ev" | dsimp only)
    refine l_new rfl (show 0 ≤ sizeLine by decide) (c_neLen rfl (get_app A.at_) get_last (by simp) ?_)
    repeat' (first | walk_at "ev" | (refine ⟨1, rfl, ?_⟩; refine s_last rfl (get_app A.at_) hlast ?_) | refine s_item rfl (get_app o1) (by decide) (by decide) rfl ?_ | dsimp only)
    · intro _
      repeat' (first | walk_at "ev" | (refine ⟨1, rfl, ?_⟩; refine s_last rfl (get_app A.at_) hlast ?_) | refine s_item rfl (get_app o1) (by decide) (by decide) rfl ?_ | dsimp only)
      refine ⟨fun hf => ?_, fun hf => ?_⟩
      · refine i_augSub ?_
        repeat' (first | walk_at "ev" | (refine ⟨1, rfl, ?_⟩; refine s_last rfl (get_app A.at_) hlast ?_) | dsimp only)
        refine ⟨id, rfl, ?_⟩
        repeat' (first | walk_at "ev" | dsimp only)
        refine ⟨1, _, n, ⟨rfl, by decide, by decide⟩, ⟨get_app o1, rfl⟩, rfl, ?_⟩
        repeat' (first | walk_at "ev" | dsimp only)
        refine ⟨1, _, rfl, ⟨get_app o1, List.mem_cons_of_mem _ o2, Nat.lt_succ_self 1⟩, ?_⟩
        have hs : crowdStep (c0 ++ [(y, n)]) x = c0 ++ [(y, n + 1)] := by unfold crowdStep; rw [hcr, ecr]; exact if_pos hf
        refine i_nil (hP _ (i0 ++ [id]) rfl ?_ (List.mem_cons_of_mem _ hc) (by simp [St.alloc]) ?_)
        · rw [hs]
          exact A.bump (fun i hi => List.mem_cons_of_mem _ hi)
        · intro j q hj hq
          exact get_set_ne (by have := A.far id (by simp); (first | lia | omega)) (get_app hq)
      · exact fresh (by unfold crowdStep; rw [hcr]; exact if_neg (by rw [hf]; decide)) _ rfl
    · intro hf; cases hf
theorem step_len (cr : List (UInt64 × Nat)) (x : UInt64) : (crowdStep cr x).length ≤ cr.length + 1 := by
  unfold crowdStep
  repeat' split
  all_goals simp
theorem fold_le : ∀ (ys : List UInt64) (cr : List (UInt64 × Nat)), (ys.foldl crowdStep cr).length ≤ cr.length + ys.length
  | [], _ => Nat.le_refl _
  | y :: ys, cr => by
    have h1 := fold_le ys (crowdStep cr y)
    have h2 := step_len cr y
    simp only [List.foldl_cons, List.length_cons]
    omega
theorem fold_len (ys : List UInt64) : (ys.foldl crowdStep []).length ≤ ys.length := by have := fold_le ys []; simpa using this
theorem crowds_call {objs : List (List AV)} {i : Nat} {f : Nat → UInt64} {ks : List Nat} {l : List (Nat × Nat)} {Q : AV → List (List AV) → Prop} (hi : objs[i]? = some ((ks.map f).map .float)) (h2 : 2 ≤ ks.length) (hz : ks.length ≤ 2 ^ 19) (hr : Rise f l) (hf : ∀ p ∈ l, Fi (f p.1) ∧ 0 < p.2) (hp : ks.Perm (spread l))
    (hQ : ∀ c ids own objs', CrAt objs' own c ids (l.map fun p => (f p.1, p.2)) → (∀ (j : Nat) q, objs[j]? = some q → objs'[j]? = some q) → Q (.lst c) objs') : fnW gv_lawcrowds fns_lawcrowds 1 B_lawcrowds [.lst i] objs Q := by
  have hfk : ∀ x ∈ ks.map f, Fi x := by
    intro x hx
    obtain ⟨k, hk, rfl⟩ := List.mem_map.mp hx
    obtain ⟨p, hp', rfl⟩ := mem_spread (hp.mem_iff.mp hk)
    exact (hf p hp').1
  refine ⟨rfl, ?_⟩
  unfold B_lawcrowds
  repeat' (first | walk_at "ev" | dsimp only)
  refine ⟨show 0 ≤ sizeLine by decide, _, rfl, ?_⟩
  refine i_for ?_
  repeat' (first | walk_at "ev" | dsimp only)
  refine k_sortF val rfl (get_app hi) (by rw [List.length_map]; exact h2) (by rw [List.length_map]; exact Nat.le_trans hz (by decide)) (fun x hx y hy => ?_) fun ys y1 y2 => ?_
  · rw [cmp_val (hfk x hx) (hfk y hy)]
    simp only [compare, compareOfLessAndEq]
    repeat' split
    all_goals simp_all
  have ey := sorted_spread hr hp y1 y2
  have ly : ys.length = ks.length := by rw [y1.length_eq, List.length_map]
  refine t_lst rfl get_last ?_
  refine ⟨fun n σ => ∃ ids, (σ.loc 1 = some (.lst objs.length) ∧ CrAt σ.objs σ.own objs.length ids ((ys.take n).foldl crowdStep [])) ∧ (objs.length ∈ σ.own ∧ objs.length + 1 < σ.objs.length) ∧ ∀ (j : Nat) q, objs[j]? = some q → σ.objs[j]? = some q, ?_, ?_, ?_⟩
  · exact ⟨[], ⟨rfl, ⟨get_app get_last, rfl, fun _ _ _ h _ => by simp at h, List.Pairwise.nil, fun _ h => by cases h⟩⟩, ⟨List.mem_cons_of_mem _ (List.mem_cons_self ..), by simp [St.set, St.alloc]⟩, fun j q hj => get_app (get_app hj)⟩
  · rintro n u σ hu ⟨ids, ⟨f1, A⟩, ⟨ho, hl⟩, keep⟩
    rw [List.getElem?_map] at hu
    obtain ⟨x, hx, rfl⟩ := Option.map_eq_some_iff.mp hu
    have hn := (List.getElem?_eq_some_iff.mp hx).1
    refine b_name (crowd_turn (ids := ids) (x := x) (by walk_at "ev loc") (by walk_at "ev loc") (A.mono fun id h1 h2 => mem_frozen h2 (by have := A.far id h1; simp [St.set, St.alloc] at *; (first | lia | omega))) (mem_frozen ho (by simp [St.set, St.alloc])) hl ?_ ?_)
    · have := fold_len (ys.take n)
      have h3 : (ys.take n).length ≤ ys.length := by simp; (first | lia | omega)
      (first | lia | omega)
    · intro σ' ids' e1 A' o' l' k'
      have et : ys.take (n + 1) = ys.take n ++ [x] := by rw [List.take_add_one, hx]; rfl
      refine ⟨ids', ⟨by rw [e1]; walk_at "ev loc", ?_⟩, ⟨mem_thawed o', Nat.lt_of_lt_of_le hl l'⟩, fun j q hj => k' j q (List.getElem?_eq_some_iff.mp hj).1 (keep j q hj)⟩
      rw [et, List.foldl_append]
      exact A'.mono fun id _ h2 => mem_thawed h2
  · rintro σ ⟨ids, ⟨f1, A⟩, -, keep⟩
    rw [List.length_map, List.take_length, ey, crowds_of hr hf (fun c h => by cases h), List.nil_append] at A
    exact i_ret (i_loc f1 (hQ _ _ _ _ A keep))

open PySem PySem.W PySem.Float64



theorem rsz {a b : Int} : (Builtin.Range.rangeSize a b 1).toNat = (b - a).toNat := by
  have e : ∀ n : Int, n - 1 + 1 = n := fun n => by omega
  unfold Builtin.Range.rangeSize
  rw [if_pos (by decide), Int.ediv_one, e]
  by_cases h : a < b
  · rw [if_pos h]
  · rw [if_neg h, Int.toNat_eq_zero.mpr (Int.sub_nonpos_of_le (Int.not_lt.mp h))]; rfl
noncomputable def hit (j k : Int) : AV → Option AV := fun u => match u with | .int d => if j.fmod d = 0 ∧ k.fmod d = 0 then some (.int d) else none | _ => none
noncomputable def cell (j k : Int) : Option (Int × Int × Int) := if ((rngItems 2 (k + 1) 1).filterMap (hit j k)).isEmpty then some ((j * 60).fdiv k, j, k) else none
noncomputable def rowL (k : Int) (n : Nat) : List (Int × Int × Int) := (List.range n).filterMap fun b : Nat => cell b k
noncomputable def tris (n : Nat) : List (Int × Int × Int) := (List.range n).flatMap fun a : Nat => rowL (a + 1 : Nat) (a + 2)
theorem hit_turn {ℓ : Nat → Option AV} {j k d : Int} (h3 : ℓ 3 = some (.int j)) (h2 : ℓ 2 = some (.int k)) (hd : d ≠ 0) (objs : List (List AV)) (K : Option AV → List (List AV) → Prop) (h : K (hit j k (.int d)) objs) :
    compTurnW gv_lawlowest ℓ (.loc 0) none [3, 2] [] (.cons (.bools true (.cons (.cmp .Eq (.bin .Mod (.loc 1) (.loc 0)) (.const (.int 0))) (.cons (.cmp .Eq (.bin .Mod (.loc 2) (.loc 0)) (.const (.int 0))) (.nil)))) (.nil)) (.int d) objs K := by
  show wpE _ _ _ _ _
  refine i_bools (i_cmp (i_bin (i_loc (by exact h3) (i_loc rfl (o_modI hd (i_const (c_int rfl (i_and ?_ ?_))))))))
  · intro h1
    refine i_cmp (i_bin (i_loc (by exact h2) (i_loc rfl (o_modI hd (i_const (c_int rfl (i_br_nil ⟨?_, ?_⟩)))))))
    · intro h4
      refine ⟨fun _ => i_loc rfl ?_, (by intro hf; cases hf)⟩
      have e1 : j.fmod d = 0 := by simpa [icmp] using h1
      have e2 : k.fmod d = 0 := by simpa [icmp] using h4
      simpa [hit, e1, e2] using h
    · intro h4
      refine ⟨(by intro hf; cases hf), fun _ => ?_⟩
      have e2 : ¬ k.fmod d = 0 := by simpa [icmp] using h4
      simpa [hit, e2] using h
  · intro h1
    rw [h1]
    refine ⟨(by intro hf; cases hf), fun _ => ⟨(by intro hf; cases hf), fun _ => ?_⟩⟩
    have e1 : ¬ j.fmod d = 0 := by simpa [icmp] using h1
    simpa [hit, e1] using h
theorem low_turn {σ : St} {c : Nat} {l : List (Int × Int × Int)} {j k : Int} {P : Fl → St → Prop} (f1 : σ.loc 1 = some (.lst c)) (f2 : σ.loc 2 = some (.int k)) (f3 : σ.loc 3 = some (.int j)) (hc : σ.objs[c]? = some (l.map triAV)) (ho : c ∈ σ.own) (hl : l.length < 2 ^ 20)
    (hk : 1 ≤ k ∧ k < 2 ^ 20) (hj : 0 ≤ j ∧ j < 2 ^ 20)
    (hP : ∀ σ', σ'.loc = σ.loc → σ'.objs[c]? = some ((l ++ (cell j k).toList).map triAV) → c ∈ σ'.own → (∀ (j : Nat) q, j < c → σ.objs[j]? = some q → σ'.objs[j]? = some q) → P .next σ') : wpSs gv_lawlowest fns_lawlowest B_lawlowest_1 σ P := by
  unfold B_lawlowest_1
  refine i_if (i_cmp (i_comp ?_))
  repeat' (first | walk_at "ev" | dsimp only)
  refine t_rng (rng_small (by decide) (by omega) (by omega) (by decide) (by decide)) (by decide) ?_
  have hz : (rngItems 2 (k + 1) 1).length ≤ sizeLine := by
    rw [rng_len, rsz]
    exact Nat.le_trans (show (k + 1 - 2).toNat ≤ 2 ^ 20 by omega) (by decide)
  refine l_comp (hit j k) rfl hz ?_ ?_
  · intro u hu objs K hK
    obtain ⟨i, hi⟩ := List.mem_iff_getElem?.mp hu
    obtain ⟨hi1, rfl⟩ := rng_get hi
    exact hit_turn f3 f2 (by omega) objs K hK
  repeat' (first | walk_at "ev" | dsimp only)
  refine ⟨show 0 ≤ sizeLine by decide, _, rfl, ?_⟩
  by_cases he : ((rngItems 2 (k + 1) 1).filterMap (hit j k)).isEmpty
  · have e0 := List.isEmpty_iff.mp he
    refine c_eq rfl (get_app get_last) (get_last (o := σ.objs ++ [_])) (by rw [e0]; trivial) ?_
    refine ⟨fun _ => ?_, (by intro hf; cases hf)⟩
    refine i_append (i_loc (by exact f1) ⟨c, ⟨rfl, List.mem_cons_of_mem _ (List.mem_cons_of_mem _ ho)⟩, ?_⟩)
    repeat' (first | walk_at "ev" | refine o_mulI (mulOk_l (by omega)) ?_ | refine o_fdivI (by omega) (log_small (by omega)) ?_ | dsimp only)
    refine ⟨show 3 ≤ sizeLine by decide, _, ⟨get_app (get_app hc), List.mem_cons_of_mem _ (List.mem_cons_of_mem _ ho), by rw [List.length_map]; exact hl⟩, ?_⟩
    have ec : cell j k = some ((j * 60).fdiv k, j, k) := if_pos he
    refine i_nil (hP _ rfl ?_ (List.mem_cons_of_mem _ (List.mem_cons_of_mem _ ho)) ?_)
    · rw [ec, Option.toList_some, List.map_append]
      exact get_set (get_app (get_app hc))
    · intro m q hm hq
      exact get_set_ne (Nat.ne_of_lt hm) (get_app (get_app hq))
  · refine c_eqLen rfl (get_app get_last) (get_last (o := σ.objs ++ [_])) (by
      intro h
      exact he (List.isEmpty_iff.mpr (List.eq_nil_of_length_eq_zero h))) ?_
    refine ⟨(by intro hf; cases hf), fun _ => ?_⟩
    have ec : cell j k = none := if_neg he
    refine i_nil (hP _ rfl ?_ (List.mem_cons_of_mem _ (List.mem_cons_of_mem _ ho)) fun m q hm hq => get_app (get_app hq))
    rw [ec, Option.toList_none, List.append_nil]
    exact get_app (get_app hc)
theorem row_step (k : Int) (n : Nat) : rowL k (n + 1) = rowL k n ++ (cell n k).toList := by
  unfold rowL
  rw [List.range_succ, List.filterMap_append]
  congr 1
theorem row_len (k : Int) (n : Nat) : (rowL k n).length ≤ n := by
  have := List.length_filterMap_le (fun b : Nat => cell b k) (List.range n)
  simpa [rowL] using this
theorem tris_len : ∀ n : Nat, (tris n).length ≤ n * (n + 1)
  | 0 => by simp [tris]
  | n + 1 => by
    have h1 := tris_len n
    have h2 := row_len (n + 1 : Nat) (n + 2)
    have e : tris (n + 1) = tris n ++ rowL (n + 1 : Nat) (n + 2) := by unfold tris; rw [List.range_succ, List.flatMap_append]; simp
    rw [e, List.length_append]
    have : (n + 1) * (n + 1 + 1) = n * (n + 1) + 2 * (n + 1) := by rw [Nat.add_mul n 1, Nat.mul_add n (n + 1) 1]; (first | lia | omega)
    (first | lia | omega)
theorem tris_step (n : Nat) : tris (n + 1) = tris n ++ rowL (n + 1 : Nat) (n + 2) := by unfold tris; rw [List.range_succ, List.flatMap_append]; simp
theorem low_row {σ : St} {c : Nat} {l : List (Int × Int × Int)} {k : Nat} {P : Fl → St → Prop} (f1 : σ.loc 1 = some (.lst c)) (f2 : σ.loc 2 = some (.int k)) (hc : σ.objs[c]? = some (l.map triAV)) (ho : c ∈ σ.own) (hl : l.length < 1000)
    (hk : 1 ≤ k ∧ k < 1000)
    (hP : ∀ σ', σ'.loc 0 = σ.loc 0 → σ'.loc 1 = some (.lst c) → σ'.objs[c]? = some ((l ++ rowL k (k + 1)).map triAV) → c ∈ σ'.own → (∀ (j : Nat) q, j < c → σ.objs[j]? = some q → σ'.objs[j]? = some q) → P .next σ') : wpSs gv_lawlowest fns_lawlowest B_lawlowest_2 σ P := by
  unfold B_lawlowest_2
  refine i_for ?_
  repeat' (first | walk_at "ev" | refine k_range1 ?_ | dsimp only)
  refine t_rng (rng_small (by decide) (by (first | lia | omega)) (by (first | lia | omega)) (by decide) (by decide)) (by decide) ?_
  refine ⟨fun i σ' => (σ'.loc 0 = σ.loc 0 ∧ σ'.loc 1 = some (.lst c) ∧ σ'.loc 2 = some (.int k)) ∧ (σ'.objs[c]? = some ((l ++ rowL k i).map triAV) ∧ c ∈ σ'.own) ∧ ∀ (j : Nat) q, j < c → σ.objs[j]? = some q → σ'.objs[j]? = some q, ?_, ?_, ?_⟩
  · exact ⟨⟨rfl, f1, f2⟩, ⟨by simpa [rowL] using hc, ho⟩, fun _ _ _ h => h⟩
  · rintro i u σ' hu ⟨⟨g0, g1, g2⟩, ⟨gc, go⟩, keep⟩
    obtain ⟨hi, rfl⟩ := rng_get hu
    rw [rsz] at hi
    have := row_len k i
    refine b_name (low_turn (c := c) (l := l ++ rowL k i) (k := k) (j := i) (by walk_at "ev loc") (by walk_at "ev loc") ?_ gc go (by rw [List.length_append]; (first | lia | omega)) (by (first | lia | omega)) (by (first | lia | omega)) ?_)
    · rw [loc_set_eq]; congr 2; (first | lia | omega)
    · intro σ2 e1 e2 e3 e4
      refine ⟨⟨by rw [e1]; walk_at "ev loc", by rw [e1]; walk_at "ev loc", by rw [e1]; walk_at "ev loc"⟩, ⟨?_, e3⟩, fun j q hj hq => e4 j q hj (keep j q hj hq)⟩
      rw [row_step, ← List.append_assoc]
      exact e2
  · rintro σ' ⟨⟨g0, g1, g2⟩, ⟨gc, go⟩, keep⟩
    rw [rng_len, rsz] at gc
    have e : ((k : Int) + 1 - 0).toNat = k + 1 := by (first | lia | omega)
    rw [e] at gc
    exact i_nil (hP _ g0 g1 gc go keep)

noncomputable def lowT (N : Nat) : List (Int × Int × Int) := (lowest N).map fun p => ((60 * p.1 / p.2 : Nat), (p.1 : Int), (p.2 : Int))
theorem low_perm : ∀ N ∈ depths, (tris (N - 1)).isPerm (lowT N) = true := by decide +kernel
theorem low_rise : ∀ N ∈ depths, (lowT N).Pairwise (fun x y => x.1 < y.1) := by decide +kernel
theorem low_size : ∀ N ∈ depths, 2 ≤ (lowT N).length := by decide +kernel
theorem rise_first : ∀ {l : List (Int × Int × Int)}, l.Pairwise (fun x y => x.1 < y.1) → ∀ x ∈ l, ∀ y ∈ l, x.1 = y.1 → x = y
  | a :: l, h, x, hx, y, hy, e => by
    obtain ⟨h1, h2⟩ := List.pairwise_cons.mp h
    rcases List.mem_cons.mp hx with rfl | hx' <;> rcases List.mem_cons.mp hy with rfl | hy'
    · rfl
    · have := h1 y hy'; omega
    · have := h1 x hx'; omega
    · exact rise_first h2 x hx' y hy' e
noncomputable def dropP : AV → Option AV := fun u => match u with | .tup [_, b, c] => some (.tup [b, c]) | _ => none
noncomputable def pairAV (p : Nat × Nat) : AV := .tup [.int p.1, .int p.2]
theorem lowT_pairs (N : Nat) : ((lowT N).map triAV).filterMap dropP = (lowest N).map pairAV := by
  unfold lowT
  rw [List.map_map, List.filterMap_map]
  induction lowest N with
  | nil => rfl
  | cons p l ih => rw [List.filterMap_cons]; simp only [List.map_cons, ← ih]; rfl
theorem lowest_call {objs : List (List AV)} {T : Nat} {Q : AV → List (List AV) → Prop} (hT : T + 1 ∈ depths)
    (hQ : ∀ i objs', objs'[i]? = some ((lowest (T + 1)).map pairAV) → (∀ (j : Nat) q, objs[j]? = some q → objs'[j]? = some q) → Q (.lst i) objs') : fnW gv_lawlowest fns_lawlowest 1 B_lawlowest [.int T] objs Q := by
  have hd := depth_le hT
  have hp : (tris T).Perm (lowT (T + 1)) := List.isPerm_iff.mp (low_perm _ hT)
  have hr := low_rise _ hT
  have hz := low_size _ hT
  refine ⟨rfl, ?_⟩
  unfold B_lawlowest
  repeat' (first | walk_at "ev" | dsimp only)
  refine ⟨show 0 ≤ sizeLine by decide, _, rfl, ?_⟩
  refine i_for ?_
  repeat' (first | walk_at "ev" | dsimp only)
  refine t_rng (rng_small (by decide) (by (first | lia | omega)) (by (first | lia | omega)) (by decide) (by decide)) (by decide) ?_
  refine ⟨fun i σ => σ.loc 1 = some (.lst objs.length) ∧ (σ.objs[objs.length]? = some ((tris i).map triAV) ∧ objs.length ∈ σ.own) ∧ ∀ (j : Nat) q, objs[j]? = some q → σ.objs[j]? = some q, ?_, ?_, ?_⟩
  · exact ⟨rfl, ⟨get_last, List.mem_cons_self ..⟩, fun j q hj => get_app hj⟩
  · rintro i u σ hu ⟨f1, ⟨fc, fo⟩, keep⟩
    obtain ⟨hi, rfl⟩ := rng_get hu
    rw [rsz] at hi
    have hl := tris_len i
    have : i * (i + 1) ≤ 7 * 8 := Nat.mul_le_mul (by (first | lia | omega)) (by (first | lia | omega))
    refine b_name (low_row (c := objs.length) (l := tris i) (k := i + 1) (by walk_at "ev loc") ?_ fc fo (by (first | lia | omega)) (by (first | lia | omega)) ?_)
    · rw [loc_set_eq]; congr 2; (first | lia | omega)
    · intro σ' e0 e1 e2 e3 e4
      exact ⟨e1, ⟨by rw [tris_step]; exact e2, e3⟩, fun j q hj => e4 j q (List.getElem?_eq_some_iff.mp hj).1 (keep j q hj)⟩
  · rintro σ ⟨f1, ⟨fc, fo⟩, keep⟩
    rw [rng_len, rsz] at fc
    have e : ((T : Int) + 1 - 1).toNat = T := by (first | lia | omega)
    rw [e] at fc
    have lt := hp.length_eq
    have hl := tris_len T
    have : T * (T + 1) ≤ 7 * 8 := Nat.mul_le_mul (by (first | lia | omega)) (by (first | lia | omega))
    have h7 : (56 : Nat) ≤ sizeLine := by decide
    refine i_ret (i_comp ?_)
    repeat' (first | walk_at "ev" | dsimp only)
    refine k_sortT rfl fc (by (first | lia | omega)) (by (first | lia | omega)) (fun x hx y hy e => rise_first hr x (hp.mem_iff.mp hx) y (hp.mem_iff.mp hy) e) fun us u1 u2 => ?_
    have eu : us = lowT (T + 1) := by
      have p2 := u1.trans hp
      refine List.Perm.eq_of_pairwise (le := fun x y => x.1 ≤ y.1) (fun a b ha hb h1 h2 => rise_first hr a (p2.mem_iff.mp ha) b hb (Int.le_antisymm h1 h2)) u2 (hr.imp fun h => Int.le_of_lt h) p2
    subst eu
    refine t_lst rfl get_last ?_
    refine l_comp dropP rfl (by rw [List.length_map]; (first | lia | omega)) ?_ ?_
    · intro u hu os K hK
      obtain ⟨t, ht, rfl⟩ := List.mem_map.mp hu
      refine ⟨rfl, ?_⟩
      show _ ∧ _
      refine ⟨fun _ => ?_, (by intro hc; cases hc)⟩
      exact i_tuple (i_es_cons (i_loc rfl (i_es_cons (i_loc rfl (i_es_nil ⟨show 2 ≤ sizeLine by decide, hK⟩)))))
    · rw [lowT_pairs]
      exact hQ _ _ get_last fun j q hj => get_app (get_app (keep j q hj))

open PySem PySem.W PySem.Float64



theorem isZero_is {x : UInt64} {n : Int} {e : Nat} (h : Is x n e) (hn : 0 < n) : isZero x = false := by
  have T := TT_posI
  rw [isZero_val h.fi]
  refine decide_eq_false fun h0 => ?_
  have e := h.eq
  rw [h0, Int.zero_mul] at e
  have := Int.mul_pos hn T
  omega
theorem hsv_gives (r g b : UInt64) (objs : List (List AV)) (Q : AV → List (List AV) → Prop) (hz : fcmp .Eq (Float64.cmp (fmin3 r g b) (fmax3 r g b)) = false → isZero (fmax3 r g b) = false ∧ isZero (sub (fmax3 r g b) (fmin3 r g b)) = false)
    (h : Q (.tup (hsvOf r g b)) objs) : fnW gv_rgbtohsv fns_rgbtohsv 3 B_rgbtohsv [.float r, .float g, .float b] objs Q := by
  refine ⟨rfl, ?_⟩
  unfold B_rgbtohsv
  unfold hsvOf at h
  repeat' (first | walk_at "ev" | refine k_max3 ?_ | refine k_min3 ?_ | dsimp only)
  refine ⟨fun hc => ?_, fun hc => ?_⟩
  · rw [if_pos hc] at h
    repeat' (first | walk_at "ev" | dsimp only)
    exact ⟨show 3 ≤ sizeLine by decide, h⟩
  · rw [if_neg (by rw [hc]; decide)] at h
    obtain ⟨z1, z2⟩ := hz hc
    unfold hueFin hueOf at h
    generalize fmax3 r g b = M at *
    generalize fmin3 r g b = n at *
    repeat' (first | walk_at "ev" | refine o_divF z1 ?_ | refine o_divF z2 ?_ | dsimp only)
    refine ⟨fun hc1 => ?_, fun hc1 => ?_⟩
    · rw [if_pos hc1] at h
      repeat' (first | walk_at "ev" | refine o_divF z1 ?_ | refine o_divF z2 ?_ | refine o_divF (by decide +kernel) ?_ | (rw [lit_one]; refine o_modF one_nz ?_) | dsimp only)
      exact ⟨show 3 ≤ sizeLine by decide, h⟩
    · rw [if_neg (by rw [hc1]; decide)] at h
      repeat' (first | walk_at "ev" | refine o_divF z1 ?_ | refine o_divF z2 ?_ | refine o_divF (by decide +kernel) ?_ | (rw [lit_one]; refine o_modF one_nz ?_) | dsimp only)
      refine ⟨fun hc2 => ?_, fun hc2 => ?_⟩
      · rw [if_pos hc2] at h
        repeat' (first | walk_at "ev" | refine o_divF z1 ?_ | refine o_divF z2 ?_ | refine o_divF (by decide +kernel) ?_ | (rw [lit_one]; refine o_modF one_nz ?_) | dsimp only)
        exact ⟨show 3 ≤ sizeLine by decide, h⟩
      · rw [if_neg (by rw [hc2]; decide)] at h
        repeat' (first | walk_at "ev" | refine o_divF z1 ?_ | refine o_divF z2 ?_ | refine o_divF (by decide +kernel) ?_ | (rw [lit_one]; refine o_modF one_nz ?_) | dsimp only)
        exact ⟨show 3 ≤ sizeLine by decide, h⟩
theorem of_three {P : Int → Prop} {X A B C : Int} (m : X = A ∨ X = B ∨ X = C) (hA : P A) (hB : P B) (hC : P C) : P X := by
  rcases m with rfl | rfl | rfl
  · exact hA
  · exact hB
  · exact hC
theorem apart {m M : Int} (h : m ≤ M) (hne : m ≠ M) (h0 : 0 ≤ m) (h1 : M ≤ 2 ^ 53) : 0 < M ∧ 0 < M - m ∧ (M - m).natAbs ≤ 2 ^ 53 := by omega
theorem hz_of {x y z : UInt64} {A B C : Int} {e : Nat} (he : e ≤ 1074) (hx : Is x A e) (hy : Is y B e) (hz : Is z C e) (bA : 0 ≤ A ∧ A ≤ 2 ^ 53) (bB : 0 ≤ B ∧ B ≤ 2 ^ 53) (bC : 0 ≤ C ∧ C ≤ 2 ^ 53) :
    fcmp .Eq (Float64.cmp (fmin3 x y z) (fmax3 x y z)) = false → isZero (fmax3 x y z) = false ∧ isZero (sub (fmax3 x y z) (fmin3 x y z)) = false := by
  have hM := max_is hx hy hz
  have hm := min_is hx hy hz
  intro h
  rw [eq_is hm hM] at h
  have q := apart (Int.le_trans (imin_le A B C).1 (imax_ge A B C).1) (of_decide_eq_false h) (of_three (P := fun X => 0 ≤ X) (imin_mem A B C) bA.1 bB.1 bC.1) (of_three (P := fun X => X ≤ 2 ^ 53) (imax_mem A B C) bA.2 bB.2 bC.2)
  exact ⟨isZero_is hM q.1, isZero_is (hM.sub hm q.2.2 he) q.2.1⟩
theorem fm (a b : Nat) : (a : Int).fmod b = ((a % b : Nat) : Int) := by rw [Int.fmod_eq_emod_of_nonneg _ (Int.natCast_nonneg b)]; rfl
theorem fd (a b : Nat) : (a : Int).fdiv b = ((a / b : Nat) : Int) := by rw [Int.fdiv_eq_ediv_of_nonneg _ (Int.natCast_nonneg b)]; rfl
theorem is48 {n : Int} (h : n.natAbs ≤ 2 ^ 53) : Is (divII n (2 ^ 48)) n 48 := Is.div (p := n) (q := 2 ^ 48) (n := n) (e := 48) (by decide) (by rfl) h (by decide)
theorem fmax_mem (x y z : UInt64) : fmax3 x y z = x ∨ fmax3 x y z = y ∨ fmax3 x y z = z := by
  unfold fmax3
  repeat' split
  all_goals first | exact .inl rfl | exact .inr (.inl rfl) | exact .inr (.inr rfl)
theorem max_part {w s : Int} (hs : 0 < s) {r g b : Nat} (hb : ∀ U : Nat, U = r ∨ U = g ∨ U = b → (w + s * U).natAbs ≤ 2 ^ 53) :
    fmax3 (divII (w + s * r) (2 ^ 48)) (divII (w + s * g) (2 ^ 48)) (divII (w + s * b) (2 ^ 48)) = divII (w + s * (mx3 r g b : Nat)) (2 ^ 48) := by
  have hr := is48 (hb r (.inl rfl))
  have hg := is48 (hb g (.inr (.inl rfl)))
  have hb' := is48 (hb b (.inr (.inr rfl)))
  have hM := max_is hr hg hb'
  rw [imax_lin hs, imax_nat] at hM
  rcases fmax_mem (divII (w + s * r) (2 ^ 48)) (divII (w + s * g) (2 ^ 48)) (divII (w + s * b) (2 ^ 48)) with e | e | e
  · rw [e] at hM ⊢
    rw [hM.inj hr]
  · rw [e] at hM ⊢
    rw [hM.inj hg]
  · rw [e] at hM ⊢
    rw [hM.inj hb']

open PySem PySem.W PySem.Float64



structure C6 (T : Nat) (step white : Int) (h s v : Nat) (σ : St) : Prop where
  f2 : σ.loc 2 = some (.int T)
  f5 : σ.loc 5 = some (.int step)
  f6 : σ.loc 6 = some (.int white)
  f7 : σ.loc 7 = some (.lst h)
  f8 : σ.loc 8 = some (.lst s)
  f9 : σ.loc 9 = some (.lst v)
structure L6 (h s v : Nat) (H S V : List UInt64) (o : List (List AV)) (own : List Nat) : Prop where
  oh : o[h]? = some (H.map .float)
  os : o[s]? = some (S.map .float)
  ov : o[v]? = some (V.map .float)
  wh : h ∈ own
  ws : s ∈ own
  wv : v ∈ own
theorem L6.app {h s v : Nat} {H S V : List UInt64} {o : List (List AV)} {own : List Nat} (L : L6 h s v H S V o own) (l : List AV) (i : Nat) : L6 h s v H S V (o ++ [l]) (i :: own) :=
  ⟨get_app L.oh, get_app L.os, get_app L.ov, List.mem_cons_of_mem _ L.wh, List.mem_cons_of_mem _ L.ws, List.mem_cons_of_mem _ L.wv⟩
noncomputable def colW (w s : Int) : AV → Option AV := fun u => match u with | .int d => some (.float (divII (w + s * d) (2 ^ 48))) | _ => none
noncomputable def tl2 : PSs := dropS B_law_1
noncomputable def tl3 : PSs := dropS tl2
noncomputable def tl4 : PSs := dropS tl3
noncomputable def tl6 : PSs := dropS (dropS tl4)
noncomputable def tl7 : PSs := dropS tl6
structure SW (T : Nat) (step white : Int) : Prop where
  hT : T + 1 ∈ depths
  s0 : 0 < step
  s1 : step ≤ 2 ^ 44
  w0 : 0 ≤ white
  w1 : white < 2 ^ 47
theorem SW.part {T : Nat} {step white : Int} (W : SW T step white) {U : Nat} (hU : U < T + 1) : (0 ≤ step * U ∧ step * U ≤ 2 ^ 48) ∧ 0 ≤ white + step * U ∧ white + step * U ≤ 2 ^ 49 := by
  have hd := depth_le W.hT
  have h1 : 0 ≤ step * U := Int.mul_nonneg (Int.le_of_lt W.s0) (by (first | lia | omega))
  have h2 : step * U ≤ 2 ^ 44 * 7 := Int.mul_le_mul W.s1 (by (first | lia | omega)) (by (first | lia | omega)) (by decide)
  have := W.w0
  have := W.w1
  (first | lia | omega)
theorem SW.step64 {T : Nat} {step white : Int} (W : SW T step white) : step.natAbs < 2 ^ 64 := by have := W.s0; have := W.s1; omega
theorem in48 {n : Int} (h : 0 ≤ n ∧ n ≤ 2 ^ 49) : n.natAbs ≤ 2 ^ 53 ∧ (0 ≤ n ∧ n ≤ 2 ^ 53) ∧ n.natAbs < 2 ^ 1023 := by
  have h1 : n.natAbs ≤ 2 ^ 53 := by omega
  exact ⟨h1, ⟨h.1, Int.le_trans h.2 (by decide)⟩, small_fits (Nat.le_trans h1 (by decide))⟩
theorem SW.is {T : Nat} {step white w : Int} (W : SW T step white) (hw : w = white ∨ w = 0) {U : Nat} (hU : U < T + 1) : Is (divII (w + step * U) (2 ^ 48)) (w + step * U) 48 ∧ (0 ≤ w + step * U ∧ w + step * U ≤ 2 ^ 53) ∧ (w + step * U).natAbs < 2 ^ 1023 := by
  have p := W.part hU
  have b : 0 ≤ w + step * U ∧ w + step * U ≤ 2 ^ 49 := by
    rcases hw with rfl | rfl
    · exact p.2
    · rw [Int.zero_add]; exact ⟨p.1.1, Int.le_trans p.1.2 (by decide)⟩
  have q := in48 b
  exact ⟨is48 q.1, q.2⟩
theorem col_call {T : Nat} {step white w : Int} (W : SW T step white) (hw : w = white ∨ w = 0) {r g b : Nat} (hc : (r, g, b) ∈ cols (T + 1)) {objs : List (List AV)} {Q : AV → List (List AV) → Prop}
    (h : ∀ sh, (w = 0 → sh = G (skey (r, g, b))) → Q (.tup [.float (F (hkey (r, g, b))), .float sh, .float (divII (w + step * (mx3 r g b : Nat)) (2 ^ 48))]) objs) :
    fnW gv_rgbtohsv fns_rgbtohsv 3 B_rgbtohsv [.float (divII (w + step * r) (2 ^ 48)), .float (divII (w + step * g) (2 ^ 48)), .float (divII (w + step * b) (2 ^ 48))] objs Q := by
  have l := col_lt W.hT hc
  have ir := W.is hw l.1
  have ig := W.is hw l.2.1
  have ib := W.is hw l.2.2
  refine hsv_gives _ _ _ _ _ (hz_of (e := 48) (by decide) ir.1 ig.1 ib.1 ir.2.1 ig.2.1 ib.2.1) ?_
  have eh := hue_col W.hT hc (w := w) (t := step) (e := 48) W.s0 (by decide) ir.1 ig.1 ib.1 (fun U hU => (W.is hw hU).2.1)
  have ev := max_part (w := w) W.s0 (r := r) (g := g) (b := b) (by
    have nb : ∀ {n : Int}, 0 ≤ n ∧ n ≤ 2 ^ 53 → n.natAbs ≤ 2 ^ 53 := fun h => by omega
    rintro U (rfl | rfl | rfl)
    · exact nb ir.2.1
    · exact nb ig.2.1
    · exact nb ib.2.1)
  rw [hsv_parts, eh, ev]
  refine h _ fun w0 => ?_
  subst w0
  rw [Int.zero_add] at ir ig ib
  exact (show share1 (divII (0 + step * r) (2 ^ 48)) (divII (0 + step * g) (2 ^ 48)) (divII (0 + step * b) (2 ^ 48)) = _ by
    rw [Int.zero_add, Int.zero_add, Int.zero_add]
    exact share_col W.hT hc W.s0 (by decide) ir.1 ig.1 ib.1 (fun U hU => by have := (W.is hw hU).2.1; rwa [Int.zero_add] at this))
theorem digit_of {N r g b : Nat} (l : r < N ∧ g < N ∧ b < N) {u : AV} (hu : u ∈ [AV.int r, AV.int g, AV.int b]) : ∃ d : Nat, u = .int d ∧ d < N := by
  rcases List.mem_cons.mp hu with rfl | hu
  · exact ⟨_, rfl, l.1⟩
  · rcases List.mem_cons.mp hu with rfl | hu
    · exact ⟨_, rfl, l.2.1⟩
    · rcases List.mem_cons.mp hu with rfl | hu
      · exact ⟨_, rfl, l.2.2⟩
      · cases hu
theorem len_lt {l : List UInt64} (h : l.length < 1000) : (l.map AV.float).length < 2 ^ 20 := by rw [List.length_map]; exact Nat.lt_trans h (by decide)
theorem tail67 {σ : St} {T : Nat} {step white : Int} {h s v j : Nat} {r g b : Nat} {H S V : List UInt64} {P : Fl → St → Prop} (W : SW T step white) (C : C6 T step white h s v σ) (f11 : σ.loc 11 = some (.lst j)) (oj : σ.objs[j]? = some [.int r, .int g, .int b])
    (hc : (r, g, b) ∈ cols (T + 1)) (L : L6 h s v H S V σ.objs σ.own) (hl : S.length < 1000) (hne : h ≠ s ∧ v ≠ s)
    (hP : ∀ σ', C6 T step white h s v σ' → σ'.loc 3 = σ.loc 3 → L6 h s v H (S ++ [G (skey (r, g, b))]) V σ'.objs σ'.own → σ'.objs.length ≥ σ.objs.length → (∀ (j : Nat) q, j < s → σ.objs[j]? = some q → σ'.objs[j]? = some q) → P .next σ') : wpSs gv_law fns_law tl6 σ P := by
  have l := col_lt W.hT hc
  obtain ⟨f2, f5, f6, f7, f8, f9⟩ := C
  show wpSs gv_law fns_law (.cons _ tl7) σ P
  refine i_assignT (i_comp (i_loc f11 (t_lst rfl oj ?_)))
  refine l_comp (colW 0 step) rfl (show 3 ≤ sizeLine by decide) ?_ ?_
  · intro u hu objs K hK
    obtain ⟨d, rfl, hd⟩ := digit_of l hu
    have q := (W.is (.inr rfl) hd).2.2
    refine ⟨fun _ => ?_, (by intro hf; cases hf)⟩
    refine i_bin (i_bin (i_loc (by exact f5) (i_loc rfl (o_mulI (mulOk_l W.step64) ?_))))
    rw [← Int.zero_add (step * (d : Int))]
    exact i_bin (i_const (i_const (o_powI (by decide) (by decide) (by decide) (o_divI (by decide) q hK))))
  refine ⟨_, get_last, rfl, ?_⟩
  simp only [setAll, colW, List.filterMap]
  refine i_append (i_loc (by walk_at "ev loc") ⟨s, ⟨rfl, List.mem_cons_of_mem _ L.ws⟩, ?_⟩)
  repeat' (first | walk_at "ev" | dsimp only)
  refine k_fn (.inl ⟨rfl, col_call W (.inr rfl) hc fun sh hs => ?_⟩)
  rw [hs rfl]
  repeat' (first | walk_at "ev" | refine s_tup (by decide) (by decide) rfl ?_ | dsimp only)
  refine ⟨_, ⟨get_app L.os, List.mem_cons_of_mem _ L.ws, len_lt hl⟩, i_nil (hP _ ⟨by walk_at "ev loc", by walk_at "ev loc", by walk_at "ev loc", by walk_at "ev loc", by walk_at "ev loc", by walk_at "ev loc"⟩ (by walk_at "ev loc") ?_ (by simp [St.set, St.alloc]) fun j q hj hq => get_set_ne (Nat.ne_of_lt hj) (get_app hq))⟩
  exact ⟨get_set_ne hne.1 (get_app L.oh), by rw [List.map_append]; exact get_set (get_app L.os), get_set_ne hne.2 (get_app L.ov), List.mem_cons_of_mem _ L.wh, List.mem_cons_of_mem _ L.ws, List.mem_cons_of_mem _ L.wv⟩
theorem tail345 {σ : St} {T : Nat} {step white : Int} {h s v j : Nat} {r g b : Nat} {H S V : List UInt64} {P : Fl → St → Prop} (W : SW T step white) (C : C6 T step white h s v σ) (f11 : σ.loc 11 = some (.lst j)) (oj : σ.objs[j]? = some [.int r, .int g, .int b])
    (hc : (r, g, b) ∈ cols (T + 1)) (L : L6 h s v H S V σ.objs σ.own) (hl : S.length < 1000 ∧ H.length < 1000 ∧ V.length < 1000) (hne : h < s ∧ s < v ∧ v < j)
    (hP : ∀ σ', C6 T step white h s v σ' → σ'.loc 3 = σ.loc 3 → L6 h s v (H ++ [F (hkey (r, g, b))]) (S ++ [G (skey (r, g, b))]) (V ++ [divII (white + step * (mx3 r g b : Nat)) (2 ^ 48)]) σ'.objs σ'.own → σ'.objs.length ≥ σ.objs.length → (∀ (j : Nat) q, j < h → σ.objs[j]? = some q → σ'.objs[j]? = some q) → P .next σ') : wpSs gv_law fns_law tl2 σ P := by
  have l := col_lt W.hT hc
  obtain ⟨f2, f5, f6, f7, f8, f9⟩ := C
  obtain ⟨n1, n2, n3⟩ := hne
  have hs := Nat.ne_of_lt n1
  have sv := Nat.ne_of_lt n2
  have hv := Nat.ne_of_lt (Nat.lt_trans n1 n2)
  have vj := Nat.ne_of_gt n3
  have hj := Nat.ne_of_gt (Nat.lt_trans (Nat.lt_trans n1 n2) n3)
  show wpSs gv_law fns_law (.cons _ (.cons _ (.cons _ (.cons _ tl6)))) σ P
  refine i_assignT (i_comp (i_loc f11 (t_lst rfl oj ?_)))
  refine l_comp (colW white step) rfl (show 3 ≤ sizeLine by decide) ?_ ?_
  · intro u hu objs K hK
    obtain ⟨d, rfl, hd⟩ := digit_of l hu
    have q := (W.is (.inl rfl) hd).2.2
    refine ⟨fun _ => ?_, (by intro hf; cases hf)⟩
    refine i_bin (i_bin (i_loc (by exact f6) (i_bin (i_loc (by exact f5) (i_loc rfl (o_mulI (mulOk_l W.step64) (o_addI ?_)))))))
    exact i_bin (i_const (i_const (o_powI (by decide) (by decide) (by decide) (o_divI (by decide) q hK))))
  refine ⟨_, get_last, rfl, ?_⟩
  simp only [setAll, colW, List.filterMap]
  repeat' (first | walk_at "ev" | dsimp only)
  refine k_fn (.inl ⟨rfl, col_call W (.inl rfl) hc fun sh _ => ?_⟩)
  refine i_append (i_loc (by walk_at "ev loc") ⟨h, ⟨rfl, List.mem_cons_of_mem _ L.wh⟩, ?_⟩)
  repeat' (first | walk_at "ev" | refine s_tup (by decide) (by decide) rfl ?_ | dsimp only)
  refine ⟨_, ⟨get_app L.oh, List.mem_cons_of_mem _ L.wh, len_lt hl.2.1⟩, ?_⟩
  refine i_append (i_loc (by walk_at "ev loc") ⟨v, ⟨rfl, List.mem_cons_of_mem _ L.wv⟩, ?_⟩)
  repeat' (first | walk_at "ev" | refine s_tup (by decide) (by decide) rfl ?_ | dsimp only)
  refine ⟨_, ⟨get_set_ne hv.symm (get_app L.ov), List.mem_cons_of_mem _ L.wv, len_lt hl.2.2⟩, ?_⟩
  refine tail67 (h := h) (s := s) (v := v) (j := j) (H := H ++ [F (hkey (r, g, b))]) (S := S) (V := V ++ [divII (white + step * (mx3 r g b : Nat)) (2 ^ 48)]) W ⟨by walk_at "ev loc", by walk_at "ev loc", by walk_at "ev loc", by walk_at "ev loc", by walk_at "ev loc", by walk_at "ev loc"⟩ (by walk_at "ev loc") (get_set_ne vj (get_set_ne hj (get_app oj))) hc ?_ hl.1 ⟨hs, sv.symm⟩ ?_
  · exact ⟨get_set_ne hv (by rw [List.map_append]; exact get_set (get_app L.oh)), get_set_ne sv (get_set_ne hs.symm (get_app L.os)), by rw [List.map_append]; exact get_set (get_set_ne hv.symm (get_app L.ov)), List.mem_cons_of_mem _ L.wh, List.mem_cons_of_mem _ L.ws, List.mem_cons_of_mem _ L.wv⟩
  · intro σ' c1 c2 c3 c4 c5
    refine hP σ' c1 (c2.trans (by walk_at "ev loc")) c3 (Nat.le_trans ?_ c4) fun j q hj hq => c5 j q (Nat.lt_trans hj n1) (get_set_ne (Nat.ne_of_lt (Nat.lt_trans hj (Nat.lt_trans n1 n2))) (get_set_ne (Nat.ne_of_lt hj) (get_app hq)))
    simp [St.set, St.alloc]

open PySem PySem.W PySem.Float64



noncomputable def hueL (l : List (Nat × Nat × Nat)) : List UInt64 := (l.map hkey).map F
noncomputable def shareL (l : List (Nat × Nat × Nat)) : List UInt64 := (l.map skey).map G
noncomputable def valF (white step : Int) (m : Nat) : UInt64 := divII (white + step * m) (2 ^ 48)
noncomputable def valueL (white step : Int) (l : List (Nat × Nat × Nat)) : List UInt64 := (l.map fun c => mx3 c.1 c.2.1 c.2.2).map (valF white step)
theorem cols_get {N n : Nat} (h : n < N ^ 3) : (cols N)[n]? = some (dg N n) := by simp [cols, h]
theorem cols_len (N : Nat) : (cols N).length = N ^ 3 := by simp [cols]
theorem cols_take {N n : Nat} (h : n < N ^ 3) : (cols N).take (n + 1) = (cols N).take n ++ [dg N n] := by rw [List.take_add_one, cols_get h]; rfl
theorem dep_cube {N : Nat} (h : N ∈ depths) : N ^ 3 < 1000 := by
  have : ∀ N ∈ depths, N ^ 3 < 1000 := by decide
  exact this N h
theorem dep_sq {N : Nat} (h : N ∈ depths) : 9 ≤ N ^ 2 ∧ N ^ 2 ≤ 49 := by
  have : ∀ N ∈ depths, 9 ≤ N ^ 2 ∧ N ^ 2 ≤ 49 := by decide
  exact this N h
theorem col_turn {σ : St} {T n : Nat} {step white : Int} {h s v : Nat} {P : Fl → St → Prop} (W : SW T step white) (C : C6 T step white h s v σ) (f10 : σ.loc 10 = some (.int n)) (hn : n < (T + 1) ^ 3)
    (L : L6 h s v (hueL ((cols (T + 1)).take n)) (shareL ((cols (T + 1)).take n)) (valueL white step ((cols (T + 1)).take n)) σ.objs σ.own) (hne : h < s ∧ s < v)
    (hP : ∀ σ', C6 T step white h s v σ' → σ'.loc 3 = σ.loc 3 → L6 h s v (hueL ((cols (T + 1)).take (n + 1))) (shareL ((cols (T + 1)).take (n + 1))) (valueL white step ((cols (T + 1)).take (n + 1))) σ'.objs σ'.own → (∀ (j : Nat) q, j < h → σ.objs[j]? = some q → σ'.objs[j]? = some q) → P .next σ') : wpSs gv_law fns_law B_law_1 σ P := by
  have hv := (List.getElem?_eq_some_iff.mp L.ov).1
  have hc : dg (T + 1) n ∈ cols (T + 1) := List.mem_of_getElem? (cols_get hn)
  have h3 := dep_cube W.hT
  have hd := depth_le W.hT
  have lt : ((cols (T + 1)).take n).length < 1000 := by rw [List.length_take, cols_len]; omega
  obtain ⟨f2, f5, f6, f7, f8, f9⟩ := C
  show wpSs gv_law fns_law (.cons _ tl2) σ P
  repeat' (first | walk_at "ev" | refine o_modI (by omega) ?_ | refine o_fdivI (by omega) (log_small (by omega)) ?_ | refine o_powI (by decide) (by decide) (by omega) ?_ | dsimp only)
  have e4 : ((T : Int) + 1) ^ Int.toNat 2 = (((T + 1) ^ 2 : Nat) : Int) := by rw [Int.natCast_pow]; rfl
  have hq := dep_sq W.hT
  rw [e4]
  refine o_fdivI (by omega) (log_small (by omega)) ?_
  repeat' (first | walk_at "ev" | dsimp only)
  refine ⟨show 3 ≤ sizeLine by decide, _, rfl, ?_⟩
  have e1 : (n : Int).fmod ((T : Int) + 1) = ((n % (T + 1) : Nat) : Int) := fm n (T + 1)
  have e2 : ((n : Int).fdiv ((T : Int) + 1)).fmod ((T : Int) + 1) = ((n / (T + 1) % (T + 1) : Nat) : Int) := by
    rw [show (n : Int).fdiv ((T : Int) + 1) = ((n / (T + 1) : Nat) : Int) from fd n (T + 1)]
    exact fm _ (T + 1)
  have e3 : (n : Int).fdiv (((T + 1) ^ 2 : Nat) : Int) = ((n / (T + 1) ^ 2 : Nat) : Int) := fd _ _
  rw [e1, e2, e3]
  refine tail345 (r := n % (T + 1)) (g := n / (T + 1) % (T + 1)) (b := n / (T + 1) ^ 2) (j := σ.objs.length) W ⟨by walk_at "ev loc", by walk_at "ev loc", by walk_at "ev loc", by walk_at "ev loc", by walk_at "ev loc", by walk_at "ev loc"⟩ (by walk_at "ev loc") get_last hc (L.app _ _) ?_ ⟨hne.1, hne.2, hv⟩ ?_
  · simp only [shareL, hueL, valueL, List.length_map]
    exact ⟨lt, lt, lt⟩
  · intro σ' c1 c2 c3 c4 c5
    refine hP σ' c1 (c2.trans (by walk_at "ev loc")) ?_ fun j q hj hq => c5 j q hj (get_app hq)
    rw [cols_take hn]
    simp only [hueL, shareL, valueL, List.map_append] at c3 ⊢
    exact c3
theorem col_loop {σ : St} {T : Nat} {step white : Int} {h s v : Nat} {rest : PSs} {P : Fl → St → Prop} (W : SW T step white) (C : C6 T step white h s v σ) (L : L6 h s v [] [] [] σ.objs σ.own) (hne : h < s ∧ s < v)
    (hP : ∀ σ', C6 T step white h s v σ' → σ'.loc 3 = σ.loc 3 → L6 h s v (hueL (cols (T + 1))) (shareL (cols (T + 1))) (valueL white step (cols (T + 1))) σ'.objs σ'.own → (∀ (j : Nat) q, j < h → σ.objs[j]? = some q → σ'.objs[j]? = some q) → wpSs gv_law fns_law rest σ' P) :
    wpSs gv_law fns_law (.cons (.for_ (.name 10) (.call (.glob 0) (.cons (.bin .Pow (.bin .Add (.loc 2) (.const (.int 1))) (.const (.int 3))) (.nil))) B_law_1) rest) σ P := by
  have h3 := dep_cube W.hT
  have hd := depth_le W.hT
  have f2 := C.f2
  have ec : ((T : Int) + 1) ^ Int.toNat 3 = (((T + 1) ^ 3 : Nat) : Int) := by rw [Int.natCast_pow]; rfl
  refine i_for ?_
  repeat' (first | walk_at "ev" | refine o_powI (by decide) (by decide) (by omega) ?_ | refine k_range1 ?_ | dsimp only)
  rw [ec]
  refine t_rng (rng_small (by decide) (by omega) (by omega) (by decide) (by decide)) (by decide) ?_
  refine ⟨fun i σ' => (C6 T step white h s v σ' ∧ σ'.loc 3 = σ.loc 3) ∧ L6 h s v (hueL ((cols (T + 1)).take i)) (shareL ((cols (T + 1)).take i)) (valueL white step ((cols (T + 1)).take i)) σ'.objs σ'.own ∧ ∀ (j : Nat) q, j < h → σ.objs[j]? = some q → σ'.objs[j]? = some q, ?_, ?_, ?_⟩
  · exact ⟨⟨C, rfl⟩, L, fun _ _ _ h => h⟩
  · rintro i u σ' hu ⟨⟨⟨g2, g5, g6, g7, g8, g9⟩, g3⟩, L', keep⟩
    obtain ⟨hi, rfl⟩ := rng_get hu
    rw [rsz] at hi
    refine b_name (col_turn (n := i) (h := h) (s := s) (v := v) W ⟨by walk_at "ev loc", by walk_at "ev loc", by walk_at "ev loc", by walk_at "ev loc", by walk_at "ev loc", by walk_at "ev loc"⟩ ?_ (by omega) L' hne ?_)
    · rw [loc_set_eq]; congr 2; omega
    · intro σ2 c1 c2 c3 c4
      exact ⟨⟨c1, c2.trans ((show _ = σ'.loc 3 from by walk_at "ev loc").trans g3)⟩, c3, fun j q hj hq => c4 j q hj (keep j q hj hq)⟩
  · rintro σ' ⟨⟨c, g3⟩, L', keep⟩
    rw [rng_len, rsz] at L'
    have e : ((((T + 1) ^ 3 : Nat) : Int) - 0).toNat = (cols (T + 1)).length := by rw [cols_len]; omega
    rw [e, List.take_length] at L'
    exact hP σ' c g3 L' keep

open PySem PySem.W PySem.Float64



noncomputable def u5 : PSs := dropS (dropS (dropS (dropS B_law_6)))
noncomputable def u8 : PSs := dropS (dropS (dropS u5))
noncomputable def noneF : AV → Option AV := fun _ => none
theorem floats_turn {ℓ : Nat → Option AV} {elt : PE} (x : UInt64) (objs : List (List AV)) (K : Option AV → List (List AV) → Prop) (h : K none objs) :
    compTurnW gv_law ℓ elt none [] [3, 4] (.cons (.not (.call (.glob 0) (.cons (.loc 0) (.cons (.glob 1) (.nil))))) (.nil)) (.float x) objs K := by
  show wpE _ _ _ _ _
  repeat' (first | walk_at "ev" | refine k_isF ?_ | dsimp only)
  refine ⟨(by intro hc; cases hc), fun _ => ?_⟩
  exact ⟨(by intro hc; cases hc), fun _ => h⟩
theorem none_nil {l : List AV} : l.filterMap noneF = [] := by induction l with | nil => rfl | cons a l ih => exact ih
theorem hue_get {N n : Nat} (h : n < N ^ 3) : ((hueL (cols N)).map AV.float)[n]? = some (.float (F (hkey (dg N n)))) := by
  simp only [hueL, List.getElem?_map, cols_get h, Option.map_some]
theorem corner_bnd {N : Nat} (h : N ∈ depths) : (2 + N < N ^ 3 ∧ 1 + 2 * N < N ^ 3 ∧ 1 + 2 * N ^ 2 < N ^ 3) ∧ N ^ 3 + N ^ 3 + N ^ 3 ≤ 2000 := by
  have : ∀ N ∈ depths, (2 + N < N ^ 3 ∧ 1 + 2 * N < N ^ 3 ∧ 1 + 2 * N ^ 2 < N ^ 3) ∧ N ^ 3 + N ^ 3 + N ^ 3 ≤ 2000 := by decide
  exact this N h
theorem hue_item {N : Nat} {n : Nat} {k : Int} (hk : k = n) (h : n < N ^ 3) (hN : N ^ 3 ≤ 2000) : (0 ≤ k ∧ k < 2 ^ 63) ∧ ((hueL (cols N)).map AV.float)[k.toNat]? = some (.float (F (hkey (dg N n)))) := by
  subst hk
  exact ⟨⟨Int.natCast_nonneg n, Int.ofNat_lt.mpr (Nat.lt_trans (Nat.lt_of_lt_of_le h hN) (show 2000 < 2 ^ 63 by decide))⟩, hue_get h⟩
theorem tail57 {σ : St} {T : Nat} {step white : Int} {h s v : Nat} {P : Fl → St → Prop} (W : SW T step white) (C : C6 T step white h s v σ) (L : L6 h s v (hueL (cols (T + 1))) (shareL (cols (T + 1))) (valueL white step (cols (T + 1))) σ.objs σ.own)
    (hP : ∀ σ', C6 T step white h s v σ' → σ'.loc 3 = σ.loc 3 → L6 h s v (hueL (cols (T + 1))) (shareL (cols (T + 1))) (valueL white step (cols (T + 1))) σ'.objs σ'.own → (∀ (j : Nat) q, σ.objs[j]? = some q → σ'.objs[j]? = some q) → wpSs gv_law fns_law u8 σ' P) : wpSs gv_law fns_law u5 σ P := by
  obtain ⟨f2, f5, f6, f7, f8, f9⟩ := C
  have hsz : (2000 : Nat) ≤ sizeLine := by decide
  have co := corners _ W.hT
  simp only [Bool.and_eq_true, beq_iff_eq] at co
  obtain ⟨⟨co1, co2⟩, co3⟩ := co
  obtain ⟨⟨b1, b2, b3⟩, b4⟩ := corner_bnd W.hT
  have b5 : (T + 1) ^ 3 ≤ 2000 := Nat.le_trans (Nat.le_add_left _ _) b4
  have i1 := hue_item (k := 2 + ((T : Int) + 1)) rfl b1 b5
  have i2 := hue_item (k := 1 + 2 * ((T : Int) + 1)) rfl b2 b5
  have e4 : ((T : Int) + 1) ^ Int.toNat 2 = (((T + 1) ^ 2 : Nat) : Int) := by rw [Int.natCast_pow]; rfl
  have i3 := hue_item (k := 1 + 2 * (((T + 1) ^ 2 : Nat) : Int)) rfl b3 b5
  have hT : ((T : Int) + 1).natAbs < 2 ^ 64 := Nat.lt_of_le_of_lt (show T + 1 ≤ 7 from (depth_le W.hT).2) (by decide)
  have nh : ((hueL (cols (T + 1))).map AV.float).length = (T + 1) ^ 3 := by simp only [hueL, List.length_map, cols_len]
  have ns : ((shareL (cols (T + 1))).map AV.float).length = (T + 1) ^ 3 := by simp only [shareL, List.length_map, cols_len]
  have nv : ((valueL white step (cols (T + 1))).map AV.float).length = (T + 1) ^ 3 := by simp only [valueL, List.length_map, cols_len]
  have z2 : ((hueL (cols (T + 1))).map AV.float).length + ((shareL (cols (T + 1))).map AV.float).length ≤ sizeLine := by rw [nh, ns]; exact Nat.le_trans (Nat.le_trans (Nat.le_add_right _ _) b4) hsz
  have z3 : ((hueL (cols (T + 1))).map AV.float ++ (shareL (cols (T + 1))).map AV.float).length + ((valueL white step (cols (T + 1))).map AV.float).length ≤ sizeLine := by rw [List.length_append, nh, ns, nv]; exact Nat.le_trans b4 hsz
  clear b1 b2 b3 b4 b5 nh ns nv hsz
  show wpSs gv_law fns_law (.cons _ (.cons _ (.cons _ u8))) σ P
  repeat' (first | walk_at "ev" | refine s_item rfl L.oh i1.1.1 i1.1.2 i1.2 ?_ | refine s_item rfl L.oh i2.1.1 i2.1.2 i2.2 ?_ | refine o_mulI (mulOk_l (by decide)) ?_ | refine o_powI (by decide) (by decide) hT ?_ | dsimp only)
  rw [e4]
  repeat' (first | walk_at "ev" | refine s_item rfl L.oh i3.1.1 i3.1.2 i3.2 ?_ | refine o_mulI (mulOk_l (by decide)) ?_ | dsimp only)
  refine ⟨show 3 ≤ sizeLine by decide, _, rfl, ?_⟩
  repeat' (first | walk_at "ev" | refine o_divI (by decide) (by decide +kernel) ?_ | dsimp only)
  refine ⟨show 3 ≤ sizeLine by decide, _, rfl, ?_⟩
  refine c_ne rfl (get_app get_last) (get_last (o := σ.objs ++ [_])) ⟨.inl (.inr ⟨_, _, rfl, rfl, co1⟩), .inl (.inr ⟨_, _, rfl, rfl, co2⟩), .inl (.inr ⟨_, _, rfl, rfl, co3⟩), trivial⟩ ?_
  refine ⟨(by intro hf; cases hf), fun _ => ?_⟩
  refine i_if (i_cmp (i_comp (i_bin (i_bin (i_loc (by walk_at "ev loc") (i_loc (by walk_at "ev loc") ?_))))))
  refine o_addL rfl (get_app (get_app L.oh)) (get_app (get_app L.os)) z2 ?_
  refine i_loc (by walk_at "ev loc") ?_
  refine o_addL rfl get_last (get_app (get_app (get_app L.ov))) z3 ?_
  refine t_lst rfl get_last ?_
  refine l_comp noneF rfl (by rw [List.length_append]; exact z3) ?_ ?_
  · intro u hu objs K hK
    have : ∃ x, u = .float x := by
      rcases List.mem_append.mp hu with hu | hu
      · rcases List.mem_append.mp hu with hu | hu
        · obtain ⟨x, -, rfl⟩ := List.mem_map.mp hu; exact ⟨x, rfl⟩
        · obtain ⟨x, -, rfl⟩ := List.mem_map.mp hu; exact ⟨x, rfl⟩
      · obtain ⟨x, -, rfl⟩ := List.mem_map.mp hu; exact ⟨x, rfl⟩
    obtain ⟨x, rfl⟩ := this
    exact floats_turn x objs K hK
  rw [none_nil]
  refine i_list (i_es_nil ⟨show 0 ≤ sizeLine by decide, _, rfl, ?_⟩)
  refine c_ne rfl (get_app get_last) get_last trivial ?_
  refine ⟨(by intro hf; cases hf), fun _ => ?_⟩
  refine hP _ ⟨by walk_at "ev loc", by walk_at "ev loc", by walk_at "ev loc", by walk_at "ev loc", by walk_at "ev loc", by walk_at "ev loc"⟩ (by walk_at "ev loc") ?_ fun j q hq => get_app (get_app (get_app (get_app (get_app (get_app hq)))))
  exact (((((L.app _ _).app _ _).app _ _).app _ _).app _ _).app _ _

open PySem PySem.W PySem.Float64



noncomputable def dueAV (d : Nat × Nat × Nat) : AV := .tup [.int d.1, .int d.2.1, .int d.2.2]
noncomputable def capR (T k : Int) : AV → Option AV := fun u => match u with | .int i => some (.int (T + 1 - k * i)) | _ => none
theorem crowd_sum : ∀ N ∈ depths, ∀ k, k < N → 1 ≤ k → (intsOf ((rngItems 1 ((((N - 1 : Nat) : Int)).fdiv (k : Nat) + 1) 1).filterMap (capR (N - 1 : Nat) (k : Nat)))).map List.sum = some (crowd N k : Int) := by decide +kernel
theorem to_nat_le (n : Nat) : ((n : Int) - 1).toNat ≤ n := by omega
theorem nat64 {n : Nat} (h : n ≤ 1000) : (n : Int).natAbs < 2 ^ 64 := Nat.lt_of_le_of_lt h (by decide)
theorem low_den : ∀ N ∈ depths, (lowest N).all (fun p => decide ((1 ≤ p.2 ∧ p.2 < N) ∧ p.1 ≤ p.2)) = true := by decide +kernel
theorem den_of {N : Nat} (hN : N ∈ depths) {p : Nat × Nat} (hp : p ∈ lowest N) : (1 ≤ p.2 ∧ p.2 < N) ∧ p.1 ≤ p.2 := by simpa using List.all_eq_true.mp (low_den N hN) p hp
theorem low_len : ∀ N ∈ depths, (lowest N).length ≤ 20 := by decide +kernel
theorem due_turn {σ : St} {T s j k d : Nat} {l : List (Nat × Nat × Nat)} {P : Fl → St → Prop} (hT : T + 1 ∈ depths) (f2 : σ.loc 2 = some (.int T)) (f17 : σ.loc 17 = some (.lst d)) (f18 : σ.loc 18 = some (.int s)) (f19 : σ.loc 19 = some (.int j)) (f20 : σ.loc 20 = some (.int k))
    (od : σ.objs[d]? = some (l.map dueAV)) (wd : d ∈ σ.own) (hl : l.length < 1000) (hk : 1 ≤ k ∧ k < T + 1) (hs : s < 6)
    (hP : ∀ σ', σ'.loc = σ.loc → σ'.objs[d]? = some ((l ++ [(s * k + j, k, crowd (T + 1) k)]).map dueAV) → d ∈ σ'.own → (∀ (j : Nat) q, j < d → σ.objs[j]? = some q → σ'.objs[j]? = some q) → P .next σ') : wpSs gv_law fns_law B_law_2 σ P := by
  have hT6 : T ≤ 6 := Nat.le_of_succ_le_succ (depth_le hT).2
  obtain ⟨ns, n1, n2⟩ := Option.map_eq_some_iff.mp (crowd_sum _ hT k hk.2 hk.1)
  rw [Nat.add_sub_cancel] at n1
  have k64 : (k : Int).natAbs < 2 ^ 64 := nat64 (Nat.le_trans (Nat.le_of_lt_succ hk.2) (Nat.le_trans hT6 (by decide)))
  have k0 : (k : Int) ≠ 0 := fun e => Nat.ne_of_gt hk.1 (Int.ofNat.inj e)
  have s64 : (s : Int).natAbs < 2 ^ 64 := nat64 (Nat.le_trans (Nat.le_of_lt hs) (by decide))
  have eq : (T : Int).fdiv k + 1 = ((T / k + 1 : Nat) : Int) := by rw [show (T : Int).fdiv k = ((T / k : Nat) : Int) from fd T k]; rfl
  have hq : T / k + 1 ≤ 7 := Nat.succ_le_succ (Nat.le_trans (Nat.div_le_self T k) hT6)
  rw [eq] at n1
  unfold B_law_2
  refine i_append (i_loc (by exact f17) ⟨d, ⟨rfl, wd⟩, ?_⟩)
  repeat' (first | walk_at "ev" | refine o_mulI (mulOk_l s64) ?_ | dsimp only)
  refine i_comp ?_
  repeat' (first | walk_at "ev" | refine o_fdivI k0 (log_small k64) ?_ | dsimp only)
  rw [eq]
  refine t_rng (rng_small (by decide) (Int.ofNat_le.mpr (Nat.le_add_left 1 _)) (Int.lt_of_le_of_lt (Int.ofNat_le.mpr hq) (by decide)) (by decide) (by decide)) (by decide) ?_
  refine l_comp (capR T k) rfl (by rw [rng_len, rsz]; exact Nat.le_trans (Nat.le_trans (to_nat_le (T / k + 1)) hq) (by decide)) ?_ ?_
  · intro u hu objs K hK
    obtain ⟨i, hi⟩ := List.mem_iff_getElem?.mp hu
    obtain ⟨hi1, rfl⟩ := rng_get hi
    refine ⟨fun _ => ?_, (by intro hf; cases hf)⟩
    refine i_bin (i_bin (i_loc (by exact f2) (i_const (o_addI (i_bin (i_loc (by exact f20) (i_loc rfl (o_mulI (mulOk_l k64) (o_subI ?_)))))))))
    exact hK
  refine i_es_nil (k_sum rfl get_last n1 ?_)
  rw [n2]
  repeat' (first | walk_at "ev" | dsimp only)
  refine ⟨show 3 ≤ sizeLine by decide, _, ⟨get_app od, List.mem_cons_of_mem _ wd, by rw [List.length_map]; exact Nat.lt_trans hl (by decide)⟩, i_nil (hP _ rfl ?_ (List.mem_cons_of_mem _ wd) fun j q hj hq => get_set_ne (Nat.ne_of_lt hj) (get_app hq))⟩
  rw [List.map_append]
  exact get_set (get_app od)

noncomputable def rowD (N s : Nat) (l : List (Nat × Nat)) : List (Nat × Nat × Nat) := l.map fun p => (s * p.2 + p.1, p.2, crowd N p.2)
theorem pick_init {α : Type} (l : List α) (h : 0 < l.length) : pick l none (some (-1)) = l.dropLast := by
  have e1 : kms_lo none l.length = 0 := rfl
  have e2 : kms_hi (some (-1)) l.length = l.length - 1 := by
    obtain ⟨n, hn⟩ : ∃ n, l.length = n + 1 := ⟨_, (Nat.sub_add_cancel h).symm⟩
    rw [hn]
    unfold kms_hi
    simp only []
    rw [if_pos (by decide)]
    rfl
  unfold pick
  rw [e1, e2, List.drop_zero, Nat.sub_zero, List.dropLast_eq_take]
theorem pick_tail {α : Type} (l : List α) (h : 0 < l.length) : pick l (some 1) none = l.tail := by
  have e1 : kms_lo (some 1) l.length = 1 := by
    unfold kms_lo
    simp only []
    rw [if_neg (by decide)]
    exact Nat.min_eq_left h
  have e2 : kms_hi none l.length = l.length := rfl
  unfold pick
  rw [e1, e2, List.drop_one, ← List.length_tail, List.take_length]
theorem due_row {σ : St} {T s d : Nat} {l : List (Nat × Nat × Nat)} {P : Fl → St → Prop} (hT : T + 1 ∈ depths) (f2 : σ.loc 2 = some (.int T)) (f17 : σ.loc 17 = some (.lst d)) (f18 : σ.loc 18 = some (.int s))
    (od : σ.objs[d]? = some (l.map dueAV)) (wd : d ∈ σ.own) (hl : l.length < 500) (hs : s < 6)
    (hP : ∀ σ', (∀ n, n < 18 → σ'.loc n = σ.loc n) → σ'.objs[d]? = some ((l ++ rowD (T + 1) s (lowest (T + 1)).dropLast).map dueAV) → d ∈ σ'.own → (∀ (j : Nat) q, j < d → σ.objs[j]? = some q → σ'.objs[j]? = some q) → P .next σ') : wpSs gv_law fns_law B_law_3 σ P := by
  have hll := low_len _ hT
  unfold B_law_3
  refine i_for (i_slTo ?_)
  repeat' (first | walk_at "ev" | dsimp only)
  refine k_fn (.inr (.inl ⟨rfl, lowest_call hT fun i objs' o1 o2 => ?_⟩))
  repeat' (first | walk_at "ev" | dsimp only)
  refine ⟨_, rfl, _, rfl, ?_⟩
  have hp0 : 0 < (lowest (T + 1)).length := by have := low_size _ hT; simp only [lowT, List.length_map] at this; (first | lia | omega)
  have h20 : ((lowest (T + 1)).map pairAV).length ≤ sizeLine := by rw [List.length_map]; exact Nat.le_trans hll (by decide)
  refine s_slice rfl o1 h20 ?_
  rw [pick_map, pick_init _ hp0]
  refine t_lst rfl get_last ?_
  have hne : d ≠ objs'.length := Nat.ne_of_lt (List.getElem?_eq_some_iff.mp (o2 _ _ od)).1
  have hdl : ((lowest (T + 1)).dropLast).length ≤ 20 := by rw [List.length_dropLast]; (first | lia | omega)
  refine ⟨fun i σ' => (∀ n, n < 19 → σ'.loc n = σ.loc n) ∧ (σ'.objs[d]? = some ((l ++ rowD (T + 1) s ((lowest (T + 1)).dropLast.take i)).map dueAV) ∧ d ∈ σ'.own) ∧ ∀ (j : Nat) q, j < d → σ.objs[j]? = some q → σ'.objs[j]? = some q, ?_, ?_, ?_⟩
  · exact ⟨fun _ _ => rfl, ⟨by rw [List.take_zero]; simp only [rowD, List.map_nil, List.append_nil]; exact get_app (o2 _ _ od), List.mem_cons_of_mem _ wd⟩, fun j q _ hq => get_app (o2 _ _ hq)⟩
  · rintro n u σ' hu ⟨e, ⟨od', wd'⟩, keep⟩
    rw [List.getElem?_map] at hu
    obtain ⟨p, hp, rfl⟩ := Option.map_eq_some_iff.mp hu
    have hpm : p ∈ lowest (T + 1) := List.dropLast_subset _ (List.mem_of_getElem? hp)
    have hk := den_of hT hpm
    have ht : ((lowest (T + 1)).dropLast.take n).length ≤ 20 := by rw [List.length_take]; (first | lia | omega)
    refine b_tup rfl ?_
    simp only [setAll]
    refine due_turn (s := s) (j := p.1) (k := p.2) (d := d) (l := l ++ rowD (T + 1) s ((lowest (T + 1)).dropLast.take n)) hT ?_ ?_ ?_ (by walk_at "ev loc") (by walk_at "ev loc") od' (mem_frozen wd' hne) (by rw [List.length_append]; simp only [rowD, List.length_map]; (first | lia | omega)) hk.1 hs ?_
    · exact (e 2 (by decide)).trans f2
    · exact (e 17 (by decide)).trans f17
    · exact (e 18 (by decide)).trans f18
    · intro σ2 c1 c2 c3 c4
      refine ⟨fun m hm => ?_, ⟨?_, mem_thawed c3⟩, fun j q hj hq => c4 j q hj (keep j q hj hq)⟩
      · rw [c1]
        refine (loc_set_ne (by (first | lia | omega)) (loc_set_ne (by (first | lia | omega)) ?_))
        exact e m hm
      · rw [List.take_add_one, hp]
        simp only [rowD, List.map_append, List.append_assoc] at c2 ⊢
        exact c2
  · rintro σ' ⟨e, ⟨od', wd'⟩, keep⟩
    rw [List.length_map, List.take_length] at od'
    exact i_nil (hP σ' (fun n hn => e n (by (first | lia | omega))) od' wd' keep)
theorem rowD_len (N s : Nat) (hN : N ∈ depths) : (rowD N s (lowest N).dropLast).length ≤ 20 := by
  have := low_len N hN
  simp only [rowD, List.length_map, List.length_dropLast]
  omega
theorem due_step (N i : Nat) : (List.range (i + 1)).flatMap (fun s => rowD N s (lowest N).dropLast) = (List.range i).flatMap (fun s => rowD N s (lowest N).dropLast) ++ rowD N i (lowest N).dropLast := by
  rw [List.range_succ, List.flatMap_append]; simp
theorem due_len {N : Nat} (hN : N ∈ depths) : ∀ i, ((List.range i).flatMap (fun s => rowD N s (lowest N).dropLast)).length ≤ 20 * i
  | 0 => Nat.le_refl _
  | i + 1 => by
    rw [due_step, List.length_append]
    have := due_len hN i
    have := rowD_len N i hN
    omega
theorem due_loop {σ : St} {T : Nat} {rest : PSs} {P : Fl → St → Prop} (hT : T + 1 ∈ depths) (f2 : σ.loc 2 = some (.int T))
    (hP : ∀ σ' d, (∀ n, n < 17 → σ'.loc n = σ.loc n) → σ'.loc 17 = some (.lst d) → σ'.objs[d]? = some ((dueH (T + 1)).map dueAV) → (∀ (j : Nat) q, σ.objs[j]? = some q → σ'.objs[j]? = some q) → wpSs gv_law fns_law rest σ' P) :
    wpSs gv_law fns_law (.cons (.assign (.name 17) (.list .nil)) (.cons (.for_ (.name 18) (.call (.glob 0) (.cons (.const (.int 6)) (.nil))) B_law_3) rest)) σ P := by
  repeat' (first | walk_at "ev" | dsimp only)
  refine ⟨show 0 ≤ sizeLine by decide, _, rfl, ?_⟩
  refine i_for ?_
  repeat' (first | walk_at "ev" | refine k_range1 ?_ | dsimp only)
  refine t_rng (by decide +kernel) (by decide) ?_
  refine ⟨fun i σ' => ((∀ n, n < 17 → σ'.loc n = σ.loc n) ∧ σ'.loc 17 = some (.lst σ.objs.length)) ∧ (σ'.objs[σ.objs.length]? = some (((List.range i).flatMap (fun s => rowD (T + 1) s (lowest (T + 1)).dropLast)).map dueAV) ∧ σ.objs.length ∈ σ'.own) ∧ ∀ (j : Nat) q, σ.objs[j]? = some q → σ'.objs[j]? = some q, ?_, ?_, ?_⟩
  · exact ⟨⟨fun n hn => loc_set_ne (by (first | lia | omega)) rfl, rfl⟩, ⟨get_last, List.mem_cons_self ..⟩, fun j q hq => get_app hq⟩
  · rintro i u σ' hu ⟨⟨e, e17⟩, ⟨od, wd⟩, keep⟩
    obtain ⟨hi, rfl⟩ := rng_get hu
    rw [rsz] at hi
    have := due_len hT i
    refine b_name (due_row (s := i) (d := σ.objs.length) hT ((loc_set_ne (by decide) (e 2 (by decide))).trans f2) (by walk_at "ev loc") ?_ od wd (by (first | lia | omega)) (by (first | lia | omega)) ?_)
    · rw [loc_set_eq]; congr 2; (first | lia | omega)
    · intro σ2 c1 c2 c3 c4
      refine ⟨⟨fun n hn => (c1 n (by (first | lia | omega))).trans (loc_set_ne (by (first | lia | omega)) (e n hn)), (c1 17 (by decide)).trans (loc_set_ne (by decide) e17)⟩, ⟨?_, c3⟩, fun j q hq => c4 j q (List.getElem?_eq_some_iff.mp hq).1 (keep j q hq)⟩
      rw [due_step]
      exact c2
  · rintro σ' ⟨⟨e, e17⟩, ⟨od, wd⟩, keep⟩
    rw [rng_len, rsz] at od
    exact hP σ' _ e e17 od keep

open PySem PySem.W PySem.Float64



noncomputable def u10 : PSs := dropS (dropS u8)
noncomputable def u13 : PSs := dropS (dropS (dropS u10))
theorem comp_fmB {turn : AV → List (List AV) → (Option AV → List (List AV) → Prop) → Prop} {n : Nat} (base : List (List AV)) (hb : base.length ≤ n) (r : AV → Option AV) : ∀ (items : List AV) (objs : List (List AV)) (Qf : List (List AV) → Prop),
    (∀ u ∈ items, ∀ objs K, (∀ (j : Nat) q, base[j]? = some q → objs[j]? = some q) → K (r u) objs → turn u objs K) → (∀ (j : Nat) q, base[j]? = some q → objs[j]? = some q) → n < objs.length → Qf (objs.set n (objs.getD n [] ++ items.filterMap r)) → compL turn n items objs Qf
  | [], objs, Qf, _, _, hn, h => by
    show Qf objs
    simp only [List.filterMap_nil, List.append_nil] at h
    have e : objs.set n (objs.getD n []) = objs := by simp [hn]
    rw [e] at h
    exact h
  | u :: us, objs, Qf, ht, hk, hn, h => by
    refine ht u (.head _) objs _ hk ?_
    cases hr : r u with
    | none =>
      simp only [List.filterMap_cons, hr] at h
      exact comp_fmB base hb r us objs Qf (fun v hv => ht v (.tail _ hv)) hk hn h
    | some w =>
      simp only [List.filterMap_cons, hr] at h
      refine comp_fmB base hb r us _ Qf (fun v hv => ht v (.tail _ hv)) (fun j q hj => ?_) (by simp [appendAt, hn]) ?_
      · exact get_set_ne (by have := (List.getElem?_eq_some_iff.mp hj).1; omega) (hk j q hj)
      have e : (appendAt objs n w).set n ((appendAt objs n w).getD n [] ++ us.filterMap r) = objs.set n (objs.getD n [] ++ w :: us.filterMap r) := by
        simp [appendAt, hn, List.getD, List.append_assoc]
      rw [e]
      exact h
theorem l_compB {σ : St} {Q : AV → St → Prop} {turn : AV → List (List AV) → (Option AV → List (List AV) → Prop) → Prop} {os : List (List AV)} {items : List AV} (r : AV → Option AV) (ho : σ.objs = os) (hz : items.length ≤ sizeLine)
    (ht : ∀ u ∈ items, ∀ objs K, (∀ (j : Nat) q, os[j]? = some q → objs[j]? = some q) → K (r u) objs → turn u objs K) (h : Q (.lst os.length) (σ.alloc (items.filterMap r))) :
    compRest turn σ items Q := by
  subst ho
  refine ⟨hz, _, rfl, comp_fmB σ.objs (Nat.le_refl _) r items _ _ ht (fun j q hj => get_app hj) (by simp) ?_⟩
  have e : (σ.objs ++ [[]]).set σ.objs.length ((σ.objs ++ [[]]).getD σ.objs.length [] ++ items.filterMap r) = σ.objs ++ [items.filterMap r] := by
    simp [List.getD]
  rw [e]
  exact h
theorem ids_map {r : AV → Option AV} {g : UInt64 × Nat → AV} : ∀ {ids : List Nat} {cr : List (UInt64 × Nat)}, ids.length = cr.length → (∀ (j : Nat) id p, ids[j]? = some id → cr[j]? = some p → r (.lst id) = some (g p)) → (ids.map AV.lst).filterMap r = cr.map g
  | [], [], _, _ => rfl
  | a :: ids, p :: cr, hl, h => by
    simp only [List.map_cons, List.filterMap_cons, h 0 a p rfl rfl]
    rw [ids_map (by simpa using hl) fun j id q h1 h2 => h (j + 1) id q h1 h2]
  | [], _ :: _, hl, _ => by cases hl
  | _ :: _, [], hl, _ => by cases hl
noncomputable def sizeOf6 (o : List (List AV)) : AV → Option AV := fun u => match u with | .lst id => (o[id]?).bind fun l => l[1]? | _ => none
noncomputable def third : AV → Option AV := fun u => match u with | .tup [_, _, c] => some c | _ => none
theorem eq_ints (o : List (List AV)) : ∀ l : List Nat, eqAll (eqNest o) (l.map fun n : Nat => AV.int n) (l.map fun n : Nat => AV.int n)
  | [] => trivial
  | n :: l => ⟨.inl (.inl ⟨n, rfl, rfl⟩), eq_ints o l⟩
theorem due_pos : ∀ N ∈ depths, 0 < (dueH N).length ∧ (dueH N).length ≤ 100 := by decide +kernel
theorem thirds (l : List (Nat × Nat × Nat)) : (l.map dueAV).filterMap third = l.map fun d => AV.int d.2.2 := by
  induction l with
  | nil => rfl
  | cons d l ih => simp only [List.map_cons, List.filterMap_cons, ← ih]; rfl
structure D6 (T : Nat) (step white : Int) (h s v d c : Nat) (ids : List Nat) (σ : St) : Prop where
  C : C6 T step white h s v σ
  f17 : σ.loc 17 = some (.lst d)
  f21 : σ.loc 21 = some (.lst c)
  oh : σ.objs[h]? = some ((hueL (cols (T + 1))).map .float)
  os : σ.objs[s]? = some ((shareL (cols (T + 1))).map .float)
  ov : σ.objs[v]? = some ((valueL white step (cols (T + 1))).map .float)
  od : σ.objs[d]? = some ((dueH (T + 1)).map dueAV)
  oc : σ.objs[c]? = some (ids.map .lst)
  len : ids.length = (hcrowds (T + 1)).length
  it : ∀ (j : Nat) id p, ids[j]? = some id → (hcrowds (T + 1))[j]? = some p → σ.objs[id]? = some [.float (F p.1), .int p.2]
theorem sizes06 {σ : St} {T : Nat} {step white : Int} {h s v d c : Nat} {ids : List Nat} {P : Fl → St → Prop} {rest : PSs} (W : SW T step white) (D : D6 T step white h s v d c ids σ)
    (hP : ∀ σ', (∀ n, σ'.loc n = σ.loc n) → (∀ (j : Nat) q, σ.objs[j]? = some q → σ'.objs[j]? = some q) → wpSs gv_law fns_law rest σ' P) :
    wpSs gv_law fns_law (.cons (.ifs (.cmp .NotEq (.comp (.loc 1) (some 2) [] [] (.loc 21) (.nil)) (.bin .Add (.list (.cons (.bin .Add (.bin .Add (.sub (.sub (.loc 17) (.const (.int 0))) (.const (.int 2))) (.loc 2)) (.const (.int 1))) (.nil))) (.comp (.loc 2) (some 3) [] [] (.slFrom (.loc 17) (.const (.int 1))) (.nil)))) (.cons (.ret (.const (.bool false))) (.nil)) (.nil)) rest) σ P := by
  obtain ⟨⟨f2, f5, f6, f7, f8, f9⟩, f17, f21, oh, os, ov, od, oc, len, it⟩ := D
  obtain ⟨dp1, dp2⟩ := due_pos _ W.hT
  have hsz : 2000 ≤ sizeLine := by decide
  have hlen : (hcrowds (T + 1)).length = (dueH (T + 1)).length := by
    unfold hcrowds
    cases dueH (T + 1) with
    | nil => rfl
    | cons a l => simp
  refine i_if (i_cmp (i_comp (i_loc f21 (t_lst rfl oc ?_))))
  refine l_compB (sizeOf6 σ.objs) rfl (by rw [List.length_map]; (first | lia | omega)) ?_ ?_
  · intro u hu objs K keep hK
    obtain ⟨id, hid, rfl⟩ := List.mem_map.mp hu
    obtain ⟨j, hj⟩ := List.mem_iff_getElem?.mp hid
    obtain ⟨p, hp⟩ := get_of (hcrowds (T + 1)) (n := j) (by rw [← len]; exact (List.getElem?_eq_some_iff.mp hj).1)
    have e := it j id p hj hp
    refine ⟨_, keep _ _ e, rfl, ?_⟩
    refine ⟨fun _ => i_loc rfl ?_, (by intro hf; cases hf)⟩
    have er : sizeOf6 σ.objs (.lst id) = some (.int p.2) := by simp [sizeOf6, e]
    rwa [er] at hK
  have em : (ids.map AV.lst).filterMap (sizeOf6 σ.objs) = (hcrowds (T + 1)).map fun p => AV.int p.2 := by
    have h1 : ids.length = ((hcrowds (T + 1)).map fun p => ((0 : UInt64), p.2)).length := by rw [List.length_map]; exact len
    rw [ids_map (g := fun p => AV.int p.2) h1 ?_, List.map_map]
    · rfl
    · intro j id p hj hp
      rw [List.getElem?_map] at hp
      obtain ⟨q, hq, rfl⟩ := Option.map_eq_some_iff.mp hp
      simp [sizeOf6, it j id q hj hq]
  rw [em]
  obtain ⟨d0, ds, ed⟩ : ∃ d0 ds, dueH (T + 1) = d0 :: ds := by
    cases hd : dueH (T + 1) with
    | nil => rw [hd] at dp1; cases dp1
    | cons a l => exact ⟨a, l, rfl⟩
  have od' := od
  rw [ed] at od'
  repeat' (first | walk_at "ev" | refine s_item rfl (get_app od') (by decide) (by decide) rfl ?_ | refine s_tup (by decide) (by decide) rfl ?_ | dsimp only)
  refine ⟨show 1 ≤ sizeLine by decide, _, rfl, ?_⟩
  refine i_comp (i_slFrom (i_loc (by walk_at "ev loc") (i_const ⟨_, rfl, ?_⟩)))
  have hl : (List.map dueAV (d0 :: ds)).length ≤ sizeLine := by rw [List.length_map, ← ed]; (first | lia | omega)
  refine s_slice rfl (get_app (get_app od')) hl ?_
  rw [pick_map, pick_tail _ (by simp)]
  refine t_lst rfl get_last ?_
  have hl2 : (List.map dueAV ds).length ≤ sizeLine := by simp only [List.length_map, List.length_cons] at hl ⊢; (first | lia | omega)
  refine l_comp third rfl hl2 ?_ ?_
  · intro u hu objs K hK
    obtain ⟨e, he, rfl⟩ := List.mem_map.mp hu
    exact ⟨rfl, fun _ => i_loc rfl hK, (by intro hf; cases hf)⟩
  rw [show (d0 :: ds).tail = ds from rfl, thirds]
  refine o_addL rfl (get_app (get_app get_last)) get_last (by simp only [List.length_map, List.length_cons, List.length_nil] at hl2 ⊢; have := dp2; rw [ed, List.length_cons] at this; (first | lia | omega)) ?_
  have eh : (hcrowds (T + 1)).map (fun p => AV.int p.2) = ((d0.2.2 + (T + 1)) :: ds.map fun d => d.2.2).map fun n : Nat => AV.int n := by
    unfold hcrowds
    rw [ed]
    simp
  refine c_ne rfl (get_app (get_app (get_app (get_app get_last)))) get_last ?_ ?_
  · rw [eh]
    have e2 : [AV.int ((d0.2.2 : Int) + T + 1)] ++ (ds.map fun d => AV.int d.2.2) = ((d0.2.2 + (T + 1)) :: ds.map fun d => d.2.2).map fun n : Nat => AV.int n := by
      simp [Int.add_assoc]
    rw [e2]
    exact eq_ints _ _
  refine ⟨(by intro hf; cases hf), fun _ => ?_⟩
  exact hP _ (fun n => by walk_at "ev loc") fun j q hq => get_app (get_app (get_app (get_app (get_app hq))))

open PySem PySem.W PySem.Float64



theorem D6.of {T : Nat} {step white : Int} {h s v d c : Nat} {ids : List Nat} {σ σ' : St} (D : D6 T step white h s v d c ids σ) (hl : ∀ n, n ≠ 20 → n < 22 → σ'.loc n = σ.loc n) (ho : ∀ (j : Nat) q, σ.objs[j]? = some q → σ'.objs[j]? = some q) : D6 T step white h s v d c ids σ' where
  C := ⟨(hl _ (by decide) (by decide)).trans D.C.f2, (hl _ (by decide) (by decide)).trans D.C.f5, (hl _ (by decide) (by decide)).trans D.C.f6, (hl _ (by decide) (by decide)).trans D.C.f7, (hl _ (by decide) (by decide)).trans D.C.f8, (hl _ (by decide) (by decide)).trans D.C.f9⟩
  f17 := (hl _ (by decide) (by decide)).trans D.f17
  f21 := (hl _ (by decide) (by decide)).trans D.f21
  oh := ho _ _ D.oh
  os := ho _ _ D.os
  ov := ho _ _ D.ov
  od := ho _ _ D.od
  oc := ho _ _ D.oc
  len := D.len
  it := fun j id p h1 h2 => ho _ _ (D.it j id p h1 h2)
theorem due_bnd : ∀ N ∈ depths, (dueH N).all (fun d => decide (d.1 < 100 ∧ 0 < d.2.1 ∧ d.2.1 < 100)) = true := by decide +kernel
theorem hcr_key {N i : Nat} {d : Nat × Nat × Nat} {q : Nat × Nat} (hd : (dueH N)[i]? = some d) (hq : (hcrowds N)[i]? = some q) : q.1 = 60 * d.1 / d.2.1 := by
  unfold hcrowds at hq
  cases e : dueH N with
  | nil => rw [e] at hd; simp at hd
  | cons a l =>
    rw [e] at hd hq
    cases i with
    | zero => simp at hd hq; rw [← hq, ← hd]
    | succ i =>
      simp only [List.map_cons, List.getElem?_cons_succ, List.getElem?_map] at hd hq
      rw [hd] at hq
      simp only [Option.map_some, Option.some.injEq] at hq
      rw [← hq]
theorem hcr_len (N : Nat) : (hcrowds N).length = (dueH N).length := by
  unfold hcrowds
  cases dueH N with
  | nil => rfl
  | cons a l => simp
theorem fence_turn {σ : St} {T i : Nat} {step white : Int} {h s v d c : Nat} {ids : List Nat} {P : Fl → St → Prop} (hT : T + 1 ∈ depths) (D : D6 T step white h s v d c ids σ) (f22 : σ.loc 22 = some (.int i)) (hi : i < (dueH (T + 1)).length)
    (hP : ∀ σ', (∀ n, n ≠ 20 → n < 22 → σ'.loc n = σ.loc n) → σ'.objs = σ.objs → P .next σ') : wpSs gv_law fns_law B_law_4 σ P := by
  obtain ⟨e, he⟩ := get_of _ hi
  obtain ⟨q, hq⟩ := get_of (hcrowds (T + 1)) (n := i) (by rw [hcr_len]; exact hi)
  obtain ⟨id, hid⟩ := get_of ids (n := i) (by rw [D.len, hcr_len]; exact hi)
  have ok := D.it i id q hid hq
  rw [hcr_key he hq] at ok
  have hm := List.mem_of_getElem? he
  have bn := List.all_eq_true.mp (due_bnd _ hT) e hm
  simp only [decide_eq_true_eq] at bn
  have fe := List.all_eq_true.mp (fences _ hT) e hm
  simp only [Bool.and_eq_true, beq_iff_eq] at fe
  obtain ⟨fe1, fe2⟩ := fe
  have hz := (due_pos _ hT).2
  have od : ((dueH (T + 1)).map dueAV)[(i : Int).toNat]? = some (dueAV e) := by rw [Int.toNat_natCast, List.getElem?_map, he]; rfl
  have oc : (ids.map AV.lst)[(i : Int).toNat]? = some (.lst id) := by rw [Int.toNat_natCast, List.getElem?_map, hid]; rfl
  obtain ⟨-, f17, f21, -, -, -, od0, oc0, -, -⟩ := D
  have ep : (2 : Int) ^ Int.toNat 48 = 2 ^ 48 := rfl
  have em : ((e.1 : Nat) : Int) * 2 ^ 48 = ((e.1 * 2 ^ 48 : Nat) : Int) := by rw [Int.natCast_mul]; rfl
  have hq0 : ((e.1 * 2 ^ 48 / e.2.1 : Nat) : Int).natAbs ≤ 2 ^ 60 := by
    rw [Int.natAbs_natCast]
    have := Nat.div_le_self (e.1 * 2 ^ 48) e.2.1
    omega
  have hq1 : (-(-((e.1 * 2 ^ 48 : Nat) : Int)).fdiv e.2.1).natAbs ≤ 2 ^ 60 := by
    rw [Int.fdiv_eq_ediv_of_nonneg _ (by omega), Int.natAbs_neg]
    refine Nat.le_trans (Int.natAbs_ediv_le_natAbs _ _) ?_
    omega
  unfold B_law_4
  repeat' (first | walk_at "ev" | refine s_item rfl od0 (by omega) (by omega) od ?_ | refine s_tup (by decide) (by decide) rfl ?_ | refine o_powI (by decide) (by decide) (by decide) ?_ | refine o_mulI (mulOk_l (by omega)) ?_ | dsimp only [dueAV])
  rw [ep, em]
  repeat' (first | walk_at "ev" | refine s_item rfl od0 (by omega) (by omega) od ?_ | refine s_tup (by decide) (by decide) rfl ?_ | refine o_powI (by decide) (by decide) (by decide) ?_ | refine s_item rfl oc0 (by omega) (by omega) oc ?_ | refine s_item rfl ok (by decide) (by decide) rfl ?_ | refine o_fdivI (by omega) (log_small (by omega)) ?_ | dsimp only [dueAV])
  refine o_mulI (mulOk_l (by decide)) ?_
  rw [fd]
  rw [ep]
  refine o_divI (by decide) (small_fits hq0) (c_flt rfl (i_or (fun _ => ?_) (fun ht => ?_)))
  · repeat' (first | walk_at "ev" | refine s_item rfl oc0 (by omega) (by omega) oc ?_ | refine s_item rfl ok (by decide) (by decide) rfl ?_ | refine ⟨_, rfl, ?_⟩ | refine o_fdivI (by omega) (log_small (by omega)) ?_ | refine o_powI (by decide) (by decide) (by decide) ?_ | refine o_mulI (mulOk_l (by decide)) ?_ | dsimp only)
    rw [ep]
    refine o_divI (by decide) (small_fits hq1) (c_flt rfl (i_br_nil ⟨fun ht => ?_, fun _ => ?_⟩))
    · rw [fe2] at ht
      cases ht
    · refine i_nil (i_nil (hP _ (fun n n1 n2 => ?_) rfl))
      exact loc_set_ne n1 (loc_set_ne (by omega) rfl)
  · rw [fe1] at ht
    cases ht

theorem fence_loop {σ : St} {T : Nat} {step white : Int} {h s v d c : Nat} {ids : List Nat} {P : Fl → St → Prop} {rest : PSs} (hT : T + 1 ∈ depths) (D : D6 T step white h s v d c ids σ)
    (hP : ∀ σ', (∀ n, n ≠ 20 → n < 22 → σ'.loc n = σ.loc n) → (∀ (j : Nat) q, σ.objs[j]? = some q → σ'.objs[j]? = some q) → wpSs gv_law fns_law rest σ' P) :
    wpSs gv_law fns_law (.cons (.for_ (.name 22) (.call (.glob 0) (.cons (.call (.glob 1) (.cons (.loc 17) (.nil))) (.nil))) B_law_4) rest) σ P := by
  have hz := (due_pos _ hT).2
  have f17 := D.f17
  have od := D.od
  refine i_for ?_
  repeat' (first | walk_at "ev" | refine k_len rfl od (by rw [List.length_map]; omega) ?_ | refine k_range1 ?_ | dsimp only)
  rw [List.length_map]
  refine t_rng (rng_small (by decide) (by omega) (by omega) (by decide) (by decide)) (by decide) ?_
  refine ⟨fun i σ' => (∀ n, n ≠ 20 → n < 22 → σ'.loc n = σ.loc n) ∧ σ'.objs = σ.objs, ⟨fun _ _ _ => rfl, rfl⟩, ?_, ?_⟩
  · rintro i u σ' hu ⟨e1, e2⟩
    obtain ⟨hi, rfl⟩ := rng_get hu
    rw [rsz] at hi
    refine b_name (fence_turn (i := i) hT (D.of (fun n n1 n2 => (loc_set_ne (by omega) rfl).trans (e1 n n1 n2)) fun j q hq => ?_) ?_ (by omega) ?_)
    · show σ'.objs[j]? = some q
      rw [e2]; exact hq
    · rw [loc_set_eq]; congr 2; omega
    · intro σ2 c1 c2
      exact ⟨fun n n1 n2 => (c1 n n1 n2).trans ((loc_set_ne (by omega) rfl).trans (e1 n n1 n2)), c2.trans e2⟩
  · rintro σ' ⟨e1, e2⟩
    exact hP σ' e1 fun j q hq => by rw [e2]; exact hq
theorem tail1012 {σ : St} {T : Nat} {step white : Int} {h s v d : Nat} {P : Fl → St → Prop} (W : SW T step white) (C : C6 T step white h s v σ) (f17 : σ.loc 17 = some (.lst d)) (od : σ.objs[d]? = some ((dueH (T + 1)).map dueAV))
    (oh : σ.objs[h]? = some ((hueL (cols (T + 1))).map .float)) (os : σ.objs[s]? = some ((shareL (cols (T + 1))).map .float)) (ov : σ.objs[v]? = some ((valueL white step (cols (T + 1))).map .float))
    (hP : ∀ σ', C6 T step white h s v σ' → σ'.loc 3 = σ.loc 3 → (∀ (j : Nat) q, σ.objs[j]? = some q → σ'.objs[j]? = some q) → wpSs gv_law fns_law u13 σ' P) : wpSs gv_law fns_law u10 σ P := by
  obtain ⟨f2, f5, f6, f7, f8, f9⟩ := C
  obtain ⟨r1, r2, r3⟩ := hues_ok W.hT
  have h3 := dep_cube W.hT
  have hd := depth_le W.hT
  have hsq := dep_sq W.hT
  have hlen : ((cols (T + 1)).map hkey).length = (T + 1) ^ 3 := by rw [List.length_map, cols_len]
  have h2 : 2 ≤ (T + 1) ^ 3 := by
    have : (T + 1) ^ 3 = (T + 1) ^ 2 * (T + 1) := rfl
    have : (T + 1) ^ 2 * 1 ≤ (T + 1) ^ 2 * (T + 1) := Nat.mul_le_mul_left _ (by omega)
    omega
  show wpSs gv_law fns_law (.cons _ (.cons _ (.cons _ u13))) σ P
  repeat' (first | walk_at "ev" | dsimp only)
  refine k_fn (.inr (.inr ⟨rfl, crowds_call (f := F) (ks := (cols (T + 1)).map hkey) (l := hcrowds (T + 1)) oh (by omega) (by omega) r1 r2 r3 fun c ids own objs' A keep => ?_⟩))
  have D : D6 T step white h s v d c ids (({ σ with objs := objs' } : St).set 21 (.lst c)) := {
    C := ⟨loc_set_ne (by decide) f2, loc_set_ne (by decide) f5, loc_set_ne (by decide) f6, loc_set_ne (by decide) f7, loc_set_ne (by decide) f8, loc_set_ne (by decide) f9⟩
    f17 := loc_set_ne (by decide) f17
    f21 := loc_set_eq
    oh := keep _ _ oh
    os := keep _ _ os
    ov := keep _ _ ov
    od := keep _ _ od
    oc := A.at_
    len := by rw [A.len, List.length_map]
    it := fun j id p h1 h2 => (A.it j id (F p.1, p.2) h1 (by rw [List.getElem?_map, h2]; rfl)).1 }
  refine sizes06 W D fun σ1 a1 a2 => fence_loop W.hT (D.of (fun n _ _ => a1 n) a2) fun σ2 b1 b2 => ?_
  have D2 := (D.of (fun n _ _ => a1 n) a2).of b1 b2
  refine hP σ2 D2.C ?_ fun j q hq => b2 _ _ (a2 _ _ (keep _ _ hq))
  exact (b1 3 (by decide) (by decide)).trans ((a1 3).trans (loc_set_ne (by decide) rfl))

open PySem PySem.W PySem.Float64



noncomputable def u15 : PSs := dropS (dropS u13)
structure RowsAt (o : List (List AV)) (c : Nat) (ids : List Nat) (l : List (UInt64 × Nat)) : Prop where
  at_ : o[c]? = some (ids.map .lst)
  len : ids.length = l.length
  it : ∀ (j : Nat) id p, ids[j]? = some id → l[j]? = some p → o[id]? = some [.float p.1, .int p.2]
  ne : ∀ id ∈ ids, id ≠ c
theorem RowsAt.keep {o o' : List (List AV)} {c : Nat} {ids : List Nat} {l : List (UInt64 × Nat)} (h : RowsAt o c ids l) (k : ∀ (j : Nat) q, o[j]? = some q → o'[j]? = some q) : RowsAt o' c ids l :=
  ⟨k _ _ h.at_, h.len, fun j id p h1 h2 => k _ _ (h.it j id p h1 h2), h.ne⟩
theorem RowsAt.push {o : List (List AV)} {c : Nat} {ids : List Nat} {l : List (UInt64 × Nat)} {x : UInt64} {n : Nat} (h : RowsAt o c ids l) :
    RowsAt ((o ++ [[AV.float x, AV.int n]]).set c (ids.map AV.lst ++ [AV.lst o.length])) c (ids ++ [o.length]) (l ++ [(x, n)]) where
  at_ := by rw [get_set (get_app h.at_), List.map_append]; rfl
  len := by rw [List.length_append, List.length_append, h.len]; rfl
  it := by
    intro j id p h1 h2
    by_cases hj : j < ids.length
    · rw [List.getElem?_append_left hj] at h1
      rw [List.getElem?_append_left (by rw [← h.len]; exact hj)] at h2
      exact get_set_ne (h.ne id (List.mem_of_getElem? h1)) (get_app (h.it j id p h1 h2))
    · have hj2 := (List.getElem?_eq_some_iff.mp h1).1
      simp only [List.length_append, List.length_singleton] at hj2
      have ej : j = ids.length := by omega
      subst ej
      rw [get_last] at h1
      rw [h.len, get_last] at h2
      cases h1; cases h2
      exact get_set_ne (by have := (List.getElem?_eq_some_iff.mp h.at_).1; omega) get_last
  ne := by
    intro id hid
    have hc := (List.getElem?_eq_some_iff.mp h.at_).1
    rcases List.mem_append.mp hid with hid | hid
    · exact h.ne id hid
    · rw [List.mem_singleton.mp hid]; omega
theorem rows_eq {o : List (List AV)} {ids jds : List Nat} {l k : List (UInt64 × Nat)} (h : ∀ (j : Nat) id p, ids[j]? = some id → l[j]? = some p → o[id]? = some [.float p.1, .int p.2]) (hl : ids.length = l.length)
    (h' : ∀ (j : Nat) id p, jds[j]? = some id → k[j]? = some p → o[id]? = some [.float p.1, .int p.2]) (hl' : jds.length = k.length) (e : l.length = k.length) (he : ∀ (j : Nat) p q, l[j]? = some p → k[j]? = some q → Float64.cmp p.1 q.1 = some .eq ∧ p.2 = q.2) :
    eqAll (eqNest o) (ids.map .lst) (jds.map .lst) := by
  induction ids generalizing l jds k with
  | nil =>
    have : jds = [] := List.eq_nil_of_length_eq_zero (by rw [hl', ← e, ← hl]; rfl)
    subst this
    trivial
  | cons i ids ih =>
    match l, k, jds, hl, hl', e with
    | p :: l, q :: k, j :: jds, hl, hl', e =>
      obtain ⟨e1, e2⟩ := he 0 p q rfl rfl
      refine ⟨.inr ⟨i, j, _, _, ⟨rfl, rfl⟩, ⟨h 0 i p rfl rfl, h' 0 j q rfl rfl⟩, .inr ⟨_, _, rfl, rfl, e1⟩, .inl ⟨_, rfl, by rw [e2]⟩, trivial⟩, ?_⟩
      exact ih (fun j id p h1 h2 => h (j + 1) id p h1 h2) (by simpa using hl) (fun j id p h1 h2 => h' (j + 1) id p h1 h2) (by simpa using hl') (by simpa using e) fun j p q h1 h2 => he (j + 1) p q h1 h2
theorem preSum_range : ∀ n : Nat, preSum (fun i => (0 : Int) + (i : Int) * 1) n = ((List.range n).sum : Nat)
  | 0 => rfl
  | n + 1 => by
    show preSum _ n + _ = _
    rw [preSum_range n, List.range_succ, List.sum_append]
    simp
noncomputable def shOf (N : Nat) (p : Nat × Nat) : UInt64 × Nat := (divII p.1 p.2, 6 * p.1 * (List.range ((N - 1) / p.2 + 1)).sum)
noncomputable def dueS (N : Nat) : List (UInt64 × Nat) := (0, N) :: (lowest N).tail.map (shOf N)
theorem share_turn {σ : St} {T p q d : Nat} {ids : List Nat} {l : List (UInt64 × Nat)} {P : Fl → St → Prop} (hT : T + 1 ∈ depths) (f2 : σ.loc 2 = some (.int T)) (f17 : σ.loc 17 = some (.lst d)) (f24 : σ.loc 24 = some (.int p)) (f25 : σ.loc 25 = some (.int q))
    (A : RowsAt σ.objs d ids l) (wd : d ∈ σ.own) (hl : l.length < 1000) (hq : 1 ≤ q ∧ q < T + 1) (hp : p ≤ q)
    (hP : ∀ σ' ids', σ'.loc = σ.loc → RowsAt σ'.objs d ids' (l ++ [shOf (T + 1) (p, q)]) → d ∈ σ'.own → (∀ (j : Nat) q, j < d → σ.objs[j]? = some q → σ'.objs[j]? = some q) → P .next σ') : wpSs gv_law fns_law B_law_5 σ P := by
  have hd := depth_le hT
  unfold B_law_5
  have hq' : 0 ≤ (T : Int).fdiv q ∧ (T : Int).fdiv q ≤ T := by
    rw [show (T : Int).fdiv q = ((T / q : Nat) : Int) from fd T q]
    exact ⟨Int.natCast_nonneg _, Int.ofNat_le.mpr (Nat.div_le_self T q)⟩
  refine i_append (i_loc (by exact f17) ⟨d, ⟨rfl, wd⟩, ?_⟩)
  repeat' (first | walk_at "ev" | refine o_divI (by (first | lia | omega)) (small_fits (by (first | lia | omega))) ?_ | refine o_mulI (mulOk_l (by (first | lia | omega))) ?_ | refine o_fdivI (by (first | lia | omega)) (log_small (by (first | lia | omega))) ?_ | refine k_range1 ?_ | dsimp only)
  refine k_sumR (rng_small (by decide) (by (first | lia | omega)) (by (first | lia | omega)) (by decide) (by decide)) (by decide) ?_
  rw [rsz, preSum_range]
  have e1 : ((T : Int).fdiv q + 1 - 0).toNat = (T + 1 - 1) / q + 1 := by
    rw [show (T : Int).fdiv q = ((T / q : Nat) : Int) from fd T q, Nat.add_sub_cancel]
    generalize T / q = m
    (first | lia | omega)
  rw [e1]
  refine o_mulI (mulOk_l (by (first | lia | omega))) (i_es_nil ⟨show 2 ≤ sizeLine by decide, _, rfl, ?_⟩)
  refine ⟨_, ⟨get_app A.at_, List.mem_cons_of_mem _ wd, by rw [List.length_map, A.len]; (first | lia | omega)⟩, i_nil (hP _ (ids ++ [σ.objs.length]) rfl ?_ (List.mem_cons_of_mem _ wd) fun j q hj hq => get_set_ne (Nat.ne_of_lt hj) (get_app hq))⟩
  have := A.push (x := divII p q) (n := 6 * p * (List.range ((T + 1 - 1) / q + 1)).sum)
  have e2 : ((6 * p * (List.range ((T + 1 - 1) / q + 1)).sum : Nat) : Int) = 6 * (p : Int) * ((List.range ((T + 1 - 1) / q + 1)).sum : Nat) := by rw [Int.natCast_mul, Int.natCast_mul]; rfl
  rw [e2] at this
  exact this
theorem share_loop {σ : St} {T : Nat} {rest : PSs} {P : Fl → St → Prop} (hT : T + 1 ∈ depths) (f2 : σ.loc 2 = some (.int T))
    (hP : ∀ σ' d ids, (∀ n, n < 17 → σ'.loc n = σ.loc n) → σ'.loc 17 = some (.lst d) → RowsAt σ'.objs d ids (dueS (T + 1)) → (∀ (j : Nat) q, σ.objs[j]? = some q → σ'.objs[j]? = some q) → wpSs gv_law fns_law rest σ' P) :
    wpSs gv_law fns_law (.cons (.assign (.name 17) (.list (.cons (.list (.cons (.const (.float 0x0)) (.cons (.bin .Add (.loc 2) (.const (.int 1))) (.nil)))) (.nil)))) (.cons (.for_ (.tup [24, 25]) (.slFrom (.call (.glob 5) (.cons (.loc 2) (.nil))) (.const (.int 1))) B_law_5) rest)) σ P := by
  have hll := low_len _ hT
  repeat' (first | walk_at "ev" | refine ⟨show 2 ≤ sizeLine by decide, _, rfl, ?_⟩ | refine ⟨show 1 ≤ sizeLine by decide, _, rfl, ?_⟩ | dsimp only)
  refine i_for (i_slFrom ?_)
  repeat' (first | walk_at "ev" | dsimp only)
  refine k_fn (.inr (.inl ⟨rfl, lowest_call hT fun i objs' o1 o2 => ?_⟩))
  repeat' (first | walk_at "ev" | dsimp only)
  refine ⟨_, rfl, ?_⟩
  have hp0 : 0 < (lowest (T + 1)).length := by have := low_size _ hT; simp only [lowT, List.length_map] at this; (first | lia | omega)
  have h20 : ((lowest (T + 1)).map pairAV).length ≤ sizeLine := by rw [List.length_map]; exact Nat.le_trans hll (by decide)
  refine s_slice rfl o1 h20 ?_
  rw [pick_map, pick_tail _ hp0]
  refine t_lst rfl get_last ?_
  have z1 : (σ.objs ++ [[AV.float 0, AV.int (T + 1)]])[σ.objs.length]? = some [AV.float 0, AV.int (T + 1)] := get_last
  have z2 : (σ.objs ++ [[AV.float 0, AV.int (T + 1)]] ++ [[AV.lst σ.objs.length]])[σ.objs.length + 1]? = some [AV.lst σ.objs.length] := by
    have : (σ.objs ++ [[AV.float 0, AV.int (T + 1)]]).length = σ.objs.length + 1 := by simp
    rw [← this]
    exact get_last
  have A0 : RowsAt (σ.objs ++ [[AV.float 0, AV.int (T + 1)]] ++ [[AV.lst σ.objs.length]]) (σ.objs.length + 1) [σ.objs.length] [(0, T + 1)] := {
    at_ := z2
    len := rfl
    it := by
      intro j id p h1 h2
      match j, h1, h2 with
      | 0, h1, h2 => cases h1; cases h2; exact get_app z1
    ne := by intro id hid; rw [List.mem_singleton.mp hid]; (first | lia | omega) }
  have hlt := (List.getElem?_eq_some_iff.mp (o2 _ _ z2)).1
  have hdl : ((lowest (T + 1)).tail).length ≤ 20 := by rw [List.length_tail]; (first | lia | omega)
  refine ⟨fun i σ' => ∃ ids, ((∀ n, n < 17 → σ'.loc n = σ.loc n) ∧ σ'.loc 17 = some (.lst (σ.objs.length + 1))) ∧ (RowsAt σ'.objs (σ.objs.length + 1) ids ((0, T + 1) :: ((lowest (T + 1)).tail.take i).map (shOf (T + 1))) ∧ σ.objs.length + 1 ∈ σ'.own) ∧ ∀ (j : Nat) q, σ.objs[j]? = some q → σ'.objs[j]? = some q, ?_, ?_, ?_⟩
  · exact ⟨_, ⟨fun n hn => loc_set_ne (by (first | lia | omega)) rfl, by simp [St.alloc, St.set, upd]⟩, ⟨A0.keep fun j q hq => get_app (o2 _ _ hq), by simp [St.alloc, St.set]⟩, fun j q hq => get_app (o2 _ _ (get_app (get_app hq)))⟩
  · rintro n u σ' hu ⟨ids, ⟨e, e17⟩, ⟨A, wd⟩, keep⟩
    rw [List.getElem?_map] at hu
    obtain ⟨p, hp, rfl⟩ := Option.map_eq_some_iff.mp hu
    have hpm : p ∈ lowest (T + 1) := List.mem_of_mem_tail (List.mem_of_getElem? hp)
    have hk := den_of hT hpm
    have ht : ((lowest (T + 1)).tail.take n).length ≤ 20 := by rw [List.length_take]; (first | lia | omega)
    refine b_tup rfl ?_
    simp only [setAll]
    refine share_turn (p := p.1) (q := p.2) (d := σ.objs.length + 1) hT (loc_set_ne (by decide) (loc_set_ne (by decide) ((e 2 (by decide)).trans f2))) (loc_set_ne (by decide) (loc_set_ne (by decide) e17)) (by walk_at "ev loc") (by walk_at "ev loc") A (mem_frozen wd (by (first | lia | omega))) (by rw [List.length_cons, List.length_map]; (first | lia | omega)) hk.1 hk.2 ?_
    intro σ2 ids' c1 c2 c3 c4
    refine ⟨ids', ⟨fun m hm => ?_, by rw [c1]; exact loc_set_ne (by decide) (loc_set_ne (by decide) e17)⟩, ⟨?_, mem_thawed c3⟩, fun j q hq => c4 j q (by have := (List.getElem?_eq_some_iff.mp hq).1; (first | lia | omega)) (keep j q hq)⟩
    · rw [c1]
      exact loc_set_ne (by (first | lia | omega)) (loc_set_ne (by (first | lia | omega)) (e m hm))
    · rw [List.take_add_one, hp]
      simp only [Option.toList_some, List.map_append, List.map_cons, List.map_nil]
      exact c2
  · rintro σ' ⟨ids, ⟨e, e17⟩, ⟨A, wd⟩, keep⟩
    rw [List.length_map, List.take_length] at A
    exact hP σ' _ ids e e17 A keep

open PySem PySem.W PySem.Float64



theorem comp_inv {turn : AV → List (List AV) → (Option AV → List (List AV) → Prop) → Prop} {n : Nat} (I : Nat → List (List AV) → Prop) : ∀ (items : List AV) (i : Nat) (objs : List (List AV)) (Qf : List (List AV) → Prop),
    (∀ j u, items[j]? = some u → ∀ objs K, I (i + j) objs → (∀ w objs', I (i + j + 1) (appendAt objs' n w) → K (some w) objs') → turn u objs K) → I i objs → (∀ objs, I (i + items.length) objs → Qf objs) → compL turn n items objs Qf
  | [], _, objs, Qf, _, hi, h => h objs hi
  | u :: us, i, objs, Qf, ht, hi, h => by
    refine ht 0 u rfl objs _ hi ?_
    intro w objs' hw
    refine comp_inv I us (i + 1) _ Qf (fun j v hv objs K hI hK => ht (j + 1) v hv objs K ?_ ?_) hw fun o ho => h o ?_
    · rw [show i + (j + 1) = i + 1 + j by (first | lia | omega)]; exact hI
    · rw [show i + (j + 1) + 1 = i + 1 + j + 1 by (first | lia | omega)]; exact hK
    · rw [show i + (u :: us).length = i + 1 + us.length by simp only [List.length_cons]; (first | lia | omega)]; exact ho
theorem share_cmp {N : Nat} (hN : N ∈ depths) (j : Nat) (p q : UInt64 × Nat) (hp : ((scrowds N).map fun p => (G p.1, p.2))[j]? = some p) (hq : (dueS N)[j]? = some q) : Float64.cmp p.1 q.1 = some .eq ∧ p.2 = q.2 := by
  cases j with
  | zero =>
    cases hp; cases hq
    exact ⟨show Float64.cmp (G 0) 0 = some .eq by decide +kernel, rfl⟩
  | succ j =>
    simp only [scrowds, dueS, List.map_cons, List.getElem?_cons_succ, List.map_map, List.getElem?_map] at hp hq
    obtain ⟨a, ha, rfl⟩ := Option.map_eq_some_iff.mp hp
    rw [ha] at hq
    cases hq
    exact ⟨eq_of_beq (List.all_eq_true.mp (fractions N hN) a (List.mem_of_getElem? ha)), rfl⟩
noncomputable def u16 : PSs := dropS u15
theorem tail15 {σ : St} {T : Nat} {step white : Int} {h s v d : Nat} {ids : List Nat} {P : Fl → St → Prop} (W : SW T step white) (C : C6 T step white h s v σ) (f17 : σ.loc 17 = some (.lst d)) (A : RowsAt σ.objs d ids (dueS (T + 1)))
    (os : σ.objs[s]? = some ((shareL (cols (T + 1))).map .float))
    (hP : ∀ σ', σ'.loc = σ.loc → (∀ (j : Nat) q, σ.objs[j]? = some q → σ'.objs[j]? = some q) → wpSs gv_law fns_law u16 σ' P) : wpSs gv_law fns_law u15 σ P := by
  obtain ⟨f2, f5, f6, f7, f8, f9⟩ := C
  obtain ⟨r1, r2, r3⟩ := shares_ok W.hT
  have h3 := dep_cube W.hT
  have hd := depth_le W.hT
  have hsq := dep_sq W.hT
  have hlen : ((cols (T + 1)).map skey).length = (T + 1) ^ 3 := by rw [List.length_map, cols_len]
  have h2 : 2 ≤ (T + 1) ^ 3 := by
    have : (T + 1) ^ 3 = (T + 1) ^ 2 * (T + 1) := rfl
    have : (T + 1) ^ 2 * 1 ≤ (T + 1) ^ 2 * (T + 1) := Nat.mul_le_mul_left _ (by (first | lia | omega))
    (first | lia | omega)
  show wpSs gv_law fns_law (.cons _ u16) σ P
  repeat' (first | walk_at "ev" | dsimp only)
  refine k_fn (.inr (.inr ⟨rfl, crowds_call (f := G) (ks := (cols (T + 1)).map skey) (l := scrowds (T + 1)) os (by (first | lia | omega)) (by (first | lia | omega)) r1 r2 r3 fun c jds own objs' B keep => ?_⟩))
  have A' := A.keep keep
  refine i_loc (by exact f17) (c_ne rfl B.at_ A'.at_ (rows_eq (fun j id p h1 h2 => (B.it j id p h1 h2).1) B.len A'.it A'.len (by simp [scrowds, dueS]) (share_cmp W.hT)) ?_)
  exact ⟨(by intro hf; cases hf), fun _ => i_nil (hP _ rfl keep)⟩
theorem val_rise {white step : Int} (h0 : 0 < step) {N : Nat} (hb : ∀ U : Nat, U < N → (white + step * U).natAbs ≤ 2 ^ 53) : Rise (valF white step) (vcrowds N) := by
  unfold Rise vcrowds
  rw [List.pairwise_map]
  refine List.Pairwise.imp_of_mem ?_ List.pairwise_lt_range
  intro a b ha hb' hlt
  have ia := is48 (hb a (List.mem_range.mp ha))
  have ib := is48 (hb b (List.mem_range.mp hb'))
  have h1 : white + step * (a : Nat) < white + step * (b : Nat) := (lin_lt h0).mpr (by omega)
  refine Int.lt_of_mul_lt_mul_right (a := 2 ^ 48) ?_ (by decide)
  rw [show val (valF white step a) * 2 ^ 48 = _ from ia.eq, show val (valF white step b) * 2 ^ 48 = _ from ib.eq]
  exact Int.mul_lt_mul_of_pos_right h1 TT_posI
noncomputable def vrow (white step : Int) (m : Nat) : UInt64 × Nat := (valF white step m, (m + 1) ^ 3 - m ^ 3)
theorem cube_cast (m : Nat) : ((m : Int) + 1) ^ Int.toNat 3 - (m : Int) ^ Int.toNat 3 = (((m + 1) ^ 3 - m ^ 3 : Nat) : Int) := by
  have h : m ^ 3 ≤ (m + 1) ^ 3 := Nat.pow_le_pow_left (by omega) 3
  rw [Int.natCast_sub h, Int.natCast_pow, Int.natCast_pow]
  rfl
theorem val_comp {σ : St} {T : Nat} {step white : Int} {Q : AV → St → Prop} (W : SW T step white) (f2 : σ.loc 2 = some (.int T)) (f5 : σ.loc 5 = some (.int step)) (f6 : σ.loc 6 = some (.int white))
    (h : ∀ σ' ids, σ'.loc = σ.loc → RowsAt σ'.objs σ.objs.length ids ((List.range (T + 1)).map (vrow white step)) → (∀ (j : Nat) q, σ.objs[j]? = some q → σ'.objs[j]? = some q) → Q (.lst σ.objs.length) σ') :
    wpE gv_law fns_law (.comp (.list (.cons (.bin .Div (.bin .Add (.loc 1) (.bin .Mult (.loc 2) (.loc 0))) (.bin .Pow (.const (.int 2)) (.const (.int 48)))) (.cons (.bin .Sub (.bin .Pow (.bin .Add (.loc 0) (.const (.int 1))) (.const (.int 3))) (.bin .Pow (.loc 0) (.const (.int 3)))) (.nil)))) none [6, 5] [] (.call (.glob 0) (.cons (.bin .Add (.loc 2) (.const (.int 1))) (.nil))) (.nil)) σ Q := by
  have hd := depth_le W.hT
  have h7 : 10 ≤ sizeLine := by decide
  refine i_comp ?_
  repeat' (first | walk_at "ev" | refine k_range1 ?_ | dsimp only)
  refine t_rng (rng_small (by decide) (by (first | lia | omega)) (by (first | lia | omega)) (by decide) (by decide)) (by decide) ?_
  refine ⟨by rw [rng_len, rsz]; (first | lia | omega), _, rfl, ?_⟩
  refine comp_inv (fun i objs => ∃ ids, RowsAt objs σ.objs.length ids ((List.range i).map (vrow white step)) ∧ ∀ (j : Nat) q, σ.objs[j]? = some q → objs[j]? = some q) _ 0 _ _ ?_ ⟨[], ⟨get_last, rfl, fun _ _ _ h _ => by simp at h, fun _ h => by cases h⟩, fun j q hj => get_app hj⟩ ?_
  · rintro i u hu objs K ⟨ids, A, keep⟩ hK
    obtain ⟨hi, rfl⟩ := rng_get hu
    rw [rsz] at hi
    have eu : (0 : Int) + (i : Int) * 1 = i := by (first | lia | omega)
    have hb := (W.part (U := i) (by (first | lia | omega))).2
    rw [eu]
    rw [Nat.zero_add] at A hK
    refine ⟨fun _ => ?_, (by intro hf; cases hf)⟩
    have hg : (objs ++ [[AV.float (valF white step i), AV.int (((i + 1) ^ 3 - i ^ 3 : Nat) : Int)]]).getD σ.objs.length [] = ids.map .lst := by
      rw [List.getD_eq_getElem?_getD, get_app A.at_]; rfl
    have g1 : childLoc σ.loc [AV.int i] [6, 5] 1 = some (.int white) := f6
    have g2 : childLoc σ.loc [AV.int i] [6, 5] 2 = some (.int step) := f5
    have g0 : childLoc σ.loc [AV.int i] [6, 5] 0 = some (.int i) := rfl
    repeat' (first | walk_at "ev" | refine o_mulI (mulOk_l (by have := W.s0; have := W.s1; (first | lia | omega))) ?_ | refine o_powI (by decide) (by decide) (by (first | lia | omega)) ?_ | refine o_divI (by decide) (small_fits (by (first | lia | omega))) ?_ | dsimp only)
    refine ⟨show 2 ≤ sizeLine by decide, _, rfl, hK _ _ ?_⟩
    rw [cube_cast]
    refine ⟨ids ++ [objs.length], ?_, fun j q hj => ?_⟩
    · have := A.push (x := valF white step i) (n := (i + 1) ^ 3 - i ^ 3)
      rw [← hg] at this
      rw [List.range_succ, List.map_append]
      exact this
    · exact get_set_ne (by have := (List.getElem?_eq_some_iff.mp hj).1; (first | lia | omega)) (get_app (keep j q hj))
  · rintro objs ⟨ids, A, keep⟩
    rw [rng_len, rsz] at A
    have e : 0 + ((T : Int) + 1 - 0).toNat = T + 1 := by (first | lia | omega)
    rw [e] at A
    exact h _ ids rfl A keep
theorem tail16 {σ : St} {T : Nat} {step white : Int} {h s v : Nat} {P : Fl → St → Prop} (W : SW T step white) (C : C6 T step white h s v σ) (ov : σ.objs[v]? = some ((valueL white step (cols (T + 1))).map .float))
    (hP : ∀ σ', σ'.loc = σ.loc → (∀ (j : Nat) q, σ.objs[j]? = some q → σ'.objs[j]? = some q) → P .next σ') : wpSs gv_law fns_law u16 σ P := by
  obtain ⟨f2, f5, f6, f7, f8, f9⟩ := C
  have h3 := dep_cube W.hT
  have hd := depth_le W.hT
  have hsq := dep_sq W.hT
  have hb : ∀ U : Nat, U < T + 1 → (white + step * U).natAbs ≤ 2 ^ 53 := fun U hU => by have := (W.part hU).2; (first | lia | omega)
  have hlen : ((cols (T + 1)).map fun c => mx3 c.1 c.2.1 c.2.2).length = (T + 1) ^ 3 := by rw [List.length_map, cols_len]
  have h2 : 2 ≤ (T + 1) ^ 3 := by
    have : (T + 1) ^ 3 = (T + 1) ^ 2 * (T + 1) := rfl
    have : (T + 1) ^ 2 * 1 ≤ (T + 1) ^ 2 * (T + 1) := Nat.mul_le_mul_left _ (by (first | lia | omega))
    (first | lia | omega)
  have hf : ∀ p ∈ vcrowds (T + 1), Fi (valF white step p.1) ∧ 0 < p.2 := by
    intro p hp
    have := List.all_eq_true.mp (values_pos _ W.hT) p hp
    obtain ⟨m, hm, rfl⟩ := List.mem_map.mp hp
    exact ⟨(is48 (hb m (List.mem_range.mp hm))).fi, by simpa using this⟩
  show wpSs gv_law fns_law (.cons _ .nil) σ P
  repeat' (first | walk_at "ev" | dsimp only)
  refine k_fn (.inr (.inr ⟨rfl, crowds_call (f := valF white step) (ks := (cols (T + 1)).map fun c => mx3 c.1 c.2.1 c.2.2) (l := vcrowds (T + 1)) ov (by (first | lia | omega)) (by (first | lia | omega)) (val_rise W.s0 hb) hf (peel_perm (values_perm _ W.hT)) fun c jds own objs' B keep => ?_⟩))
  refine val_comp W f2 f5 f6 fun σ1 ids e1 A k1 => ?_
  have e : ((vcrowds (T + 1)).map fun p => (valF white step p.1, p.2)) = (List.range (T + 1)).map (vrow white step) := by
    unfold vcrowds
    rw [List.map_map]
    rfl
  rw [e] at B
  refine c_ne rfl (k1 _ _ B.at_) A.at_ (rows_eq (fun j id p h1 h2 => k1 _ _ (B.it j id p h1 h2).1) B.len A.it A.len rfl fun j p q hp hq => ?_) ?_
  · rw [hp] at hq
    cases hq
    obtain ⟨m, hm, rfl⟩ := List.mem_map.mp (List.mem_of_getElem? hp)
    exact ⟨cmp_self (is48 (hb m (List.mem_range.mp hm))).fi, rfl⟩
  · exact ⟨(by intro hf; cases hf), fun _ => i_nil (i_nil (hP _ e1 fun j q hj => k1 _ _ (keep _ _ hj)))⟩

open PySem PySem.W PySem.Float64



theorem i_swap {g : Nat → Option AV} {fns : Fns} {σ : St} {P : Fl → St → Prop} {ns : List Nat} {e : PE} {ss : PSs} (h : wpE g fns e σ fun v σ₁ => ∃ l, v = .tup l ∧ l.length = ns.length ∧ wpSs g fns ss (setAll σ₁ ns.reverse l.reverse) P) : wpSs g fns (.cons (.swap ns e) ss) σ P := h
noncomputable def u4 : PSs := dropS (dropS (dropS B_law_6))
theorem tail5 {σ : St} {T : Nat} {step white : Int} {h s v : Nat} {P : Fl → St → Prop} (W : SW T step white) (C : C6 T step white h s v σ) (L : L6 h s v (hueL (cols (T + 1))) (shareL (cols (T + 1))) (valueL white step (cols (T + 1))) σ.objs σ.own)
    (hP : ∀ σ', σ'.loc 2 = some (.int T) → σ'.loc 3 = σ.loc 3 → (∀ (j : Nat) q, σ.objs[j]? = some q → σ'.objs[j]? = some q) → P .next σ') : wpSs gv_law fns_law u5 σ P := by
  refine tail57 W C L fun σ1 C1 a1 L1 k1 => ?_
  show wpSs gv_law fns_law (.cons _ (.cons _ u10)) σ1 P
  refine due_loop W.hT C1.f2 fun σ2 d b1 b2 b3 k2 => ?_
  have C2 : C6 T step white h s v σ2 := ⟨(b1 _ (by decide)).trans C1.f2, (b1 _ (by decide)).trans C1.f5, (b1 _ (by decide)).trans C1.f6, (b1 _ (by decide)).trans C1.f7, (b1 _ (by decide)).trans C1.f8, (b1 _ (by decide)).trans C1.f9⟩
  refine tail1012 W C2 b2 b3 (k2 _ _ L1.oh) (k2 _ _ L1.os) (k2 _ _ L1.ov) fun σ3 C3 c1 k3 => ?_
  show wpSs gv_law fns_law (.cons _ (.cons _ u15)) σ3 P
  refine share_loop W.hT C3.f2 fun σ4 d' ids d1 d2 d3 k4 => ?_
  have C4 : C6 T step white h s v σ4 := ⟨(d1 _ (by decide)).trans C3.f2, (d1 _ (by decide)).trans C3.f5, (d1 _ (by decide)).trans C3.f6, (d1 _ (by decide)).trans C3.f7, (d1 _ (by decide)).trans C3.f8, (d1 _ (by decide)).trans C3.f9⟩
  refine tail15 W C4 d2 d3 (k4 _ _ (k3 _ _ (k2 _ _ L1.os))) fun σ5 e1 k5 => ?_
  have C5 : C6 T step white h s v σ5 := by
    obtain ⟨g2, g5, g6, g7, g8, g9⟩ := C4
    exact ⟨by rw [e1]; exact g2, by rw [e1]; exact g5, by rw [e1]; exact g6, by rw [e1]; exact g7, by rw [e1]; exact g8, by rw [e1]; exact g9⟩
  refine tail16 W C5 (k5 _ _ (k4 _ _ (k3 _ _ (k2 _ _ L1.ov)))) fun σ6 f1 k6 => ?_
  refine hP σ6 (by rw [f1]; exact C5.f2) ?_ fun j q hq => k6 _ _ (k5 _ _ (k4 _ _ (k3 _ _ (k2 _ _ (k1 _ _ hq)))))
  rw [f1, e1]
  exact (d1 3 (by decide)).trans (c1.trans ((b1 3 (by decide)).trans a1))
theorem turn06 {σ : St} {T c : Nat} {a : Int} {cs : List Int} {P : Fl → St → Prop} (hT : T + 1 ∈ depths) (f2 : σ.loc 2 = some (.int T)) (f3 : σ.loc 3 = some (.lst c)) (f4 : σ.loc 4 = some (.int a)) (oc : σ.objs[c]? = some (cs.map .int)) (ha : 0 ≤ a) (hb : a + 1 < cs.length) (hz : cs.length < 100)
    (hP : ∀ σ', σ'.loc 2 = some (.int T) → σ'.loc 3 = some (.lst c) → σ'.objs[c]? = some (cs.map .int) → P .next σ') : wpSs gv_law fns_law B_law_6 σ P := by
  obtain ⟨x, hx⟩ := get_of cs (n := a.toNat) (by omega)
  obtain ⟨y, hy⟩ := get_of cs (n := (a + 1).toNat) (by omega)
  have ex : (cs.map AV.int)[a.toNat]? = some (.int x) := by rw [List.getElem?_map, hx]; rfl
  have ey : (cs.map AV.int)[(a + 1).toNat]? = some (.int y) := by rw [List.getElem?_map, hy]; rfl
  have mx := mod_rng x (b := 2 ^ 44) (by decide)
  have my := mod_rng y (b := 2 ^ 47) (by decide)
  have W : SW T (1 + x.fmod (2 ^ 44)) (y.fmod (2 ^ 47)) := ⟨hT, by omega, by omega, by omega, by omega⟩
  have hc := (List.getElem?_eq_some_iff.mp oc).1
  show wpSs gv_law fns_law (.cons _ (.cons _ (.cons _ u4))) σ P
  repeat' (first | walk_at "ev" | refine s_item rfl oc ha (by omega) ex ?_ | refine s_item rfl oc (by omega) (by omega) ey ?_ | refine o_powI (by decide) (by decide) (by decide) ?_ | dsimp only)
  refine o_modI (by decide) ?_
  repeat' (first | walk_at "ev" | refine s_item rfl oc ha (by omega) ex ?_ | refine s_item rfl oc (by omega) (by omega) ey ?_ | refine o_powI (by decide) (by decide) (by decide) ?_ | dsimp only)
  refine o_modI (by decide) ?_
  refine i_swap ?_
  repeat' (first | walk_at "ev" | refine ⟨show 0 ≤ sizeLine by decide, _, rfl, ?_⟩ | dsimp only)
  refine ⟨show 3 ≤ sizeLine by decide, _, rfl, rfl, ?_⟩
  simp only [List.reverse_cons, List.reverse_nil, List.nil_append, List.cons_append, setAll]
  refine col_loop (rest := u5) (h := σ.objs.length) (s := (σ.objs ++ [[]]).length) (v := (σ.objs ++ [[]] ++ [[]]).length) W ⟨by walk_at "ev loc", by walk_at "ev loc", by walk_at "ev loc", by walk_at "ev loc", by walk_at "ev loc", by walk_at "ev loc"⟩ ⟨get_app (get_app get_last), get_app get_last, get_last, .tail _ (.tail _ (.head _)), .tail _ (.head _), .head _⟩ ⟨by simp, by simp⟩ fun σ1 C1 a1 L1 k1 => ?_
  have a3 : σ1.loc 3 = some (.lst c) := a1.trans (by walk_at "ev loc")
  refine tail5 W C1 L1 fun σ2 b2 b3 k2 => hP σ2 b2 (b3.trans a3) (k2 _ _ (k1 _ _ hc (get_app (get_app (get_app oc)))))
noncomputable def w2 : PSs := dropS (dropS B_law)
theorem five_of {z : Int} (h : 0 ≤ z ∧ z < 5) : ∃ T : Nat, 2 + z = T ∧ T + 1 ∈ depths := by
  obtain ⟨n, rfl⟩ := Int.eq_ofNat_of_zero_le h.1
  have : ∀ n, n < 5 → 2 + n + 1 ∈ depths := by decide
  exact ⟨2 + n, rfl, this n (Int.ofNat_lt.mp h.2)⟩
theorem cells_len {ks : List Int} (h : ks.length ≤ 63) : [AV.int 1234567, AV.int 7654321].length + (ks.map AV.int).length ≤ sizeLine ∧ ([AV.int 1234567, AV.int 7654321] ++ ks.map AV.int).length + [AV.int 0].length ≤ sizeLine := by
  have h1 : 66 ≤ sizeLine := by decide
  rw [List.length_append, List.length_map]
  exact ⟨Nat.le_trans (Nat.add_le_add_left h 2) (Nat.le_trans (by decide) h1), Nat.le_trans (Nat.add_le_add_right (Nat.add_le_add_left h 2) 1) h1⟩
theorem cells_size {ks : List Int} (h : ks.length ≤ 63) : 3 ≤ ([1234567, 7654321] ++ ks ++ [0] : List Int).length ∧ ([1234567, 7654321] ++ ks ++ [0] : List Int).length < 100 := by
  rw [List.length_append, List.length_append]
  show 3 ≤ 2 + ks.length + 1 ∧ 2 + ks.length + 1 < 100
  omega
theorem cells_rng {n : Nat} (h : 3 ≤ n) (h' : n < 100) : (0 : Int) ≤ (n : Int) - 1 ∧ (n : Int) - 1 < 2 ^ 40 := by omega
theorem cells_at {i m : Nat} (h : 0 + (i : Int) * 2 < (m : Int) - 1) : 0 ≤ 0 + (i : Int) * 2 ∧ 0 + (i : Int) * 2 + 1 < m := by omega
theorem rest06 {σ : St} {i : Nat} {f : Int} {ms : List Int} (f0 : σ.loc 0 = some (.lst i)) (f1 : σ.loc 1 = some (.int f)) (oi : σ.objs[i]? = some (ms.map .int)) (hz : ms.length ≤ 63) : wpSs gv_law fns_law w2 σ fun fl _ => fl = .ret (.bool true) := by
  obtain ⟨T, eT, hT⟩ := five_of (mod_rng f (b := 5) (by decide))
  show wpSs gv_law fns_law (.cons _ (.cons _ (.cons _ _))) σ _
  repeat' (first | walk_at "ev" | refine o_modI (by decide) ?_ | dsimp only)
  rw [eT]
  refine l_new rfl (show 2 ≤ sizeLine by decide) ?_
  refine i_slFrom (i_loc (by walk_at "ev loc") (i_const ⟨_, rfl, ?_⟩))
  refine s_slice rfl (get_app oi) (by rw [List.length_map]; exact Nat.le_trans hz (by decide)) ?_
  rw [pick_map]
  generalize hks : pick ms (some 1) none = ks
  have hkl : ks.length ≤ 63 := Nat.le_trans (hks ▸ pick_len ms (some 1) none) hz
  obtain ⟨hlk, hlk2⟩ := cells_len hkl
  refine o_addL rfl (get_app get_last) get_last hlk ?_
  refine i_list (i_es_cons (i_const (i_es_nil ?_)))
  refine l_new rfl (show 1 ≤ sizeLine by decide) ?_
  refine o_addL rfl (get_app get_last) get_last hlk2 ?_
  obtain ⟨cs, hcs, hc1, hc2⟩ : ∃ cs : List Int, (([AV.int 1234567, .int 7654321] ++ ks.map .int) ++ [AV.int 0] : List AV) = cs.map .int ∧ 3 ≤ cs.length ∧ cs.length < 100 :=
    ⟨[1234567, 7654321] ++ ks ++ [0], by simp, cells_size hkl⟩
  rw [hcs]
  have key : ∀ (σ1 : St) (c : Nat), σ1.loc 2 = some (.int T) → σ1.loc 3 = some (.lst c) → σ1.objs[c]? = some (cs.map .int) → wpSs gv_law fns_law (dropS (dropS w2)) σ1 fun fl _ => fl = .ret (.bool true) := by
    intro σ1 c g2 g3 gc
    show wpSs gv_law fns_law (.cons _ (.cons _ .nil)) σ1 _
    refine i_for ?_
    repeat' (first | walk_at "ev" | refine k_len rfl gc (by rw [List.length_map]; exact Nat.lt_trans hc2 (by decide)) ?_ | refine k_range3 (by decide) (by decide) ?_ | dsimp only)
    rw [List.length_map]
    have hr := cells_rng hc1 hc2
    refine t_rng (rng_small (by decide) hr.1 hr.2 (by decide) (by decide)) (by decide) ?_
    refine ⟨fun _ σ' => σ'.loc 2 = some (.int T) ∧ σ'.loc 3 = some (.lst c) ∧ σ'.objs[c]? = some (cs.map .int), ⟨g2, g3, gc⟩, ?_, ?_⟩
    · rintro n u σ' hu ⟨e2, e3, ec⟩
      obtain ⟨hi, rfl⟩ := rng_get hu
      have hlt := rng_lt (by decide) hi
      refine b_name (turn06 (c := c) (a := 0 + (n : Int) * 2) hT (by walk_at "ev loc") (by walk_at "ev loc") loc_set_eq ec (cells_at hlt).1 (cells_at hlt).2 hc2 fun σ2 c1 c2 c3 => ⟨c1, c2, c3⟩)
    · intro σ2 _
      exact i_ret (i_const rfl)
  exact key _ _ (by walk_at "ev loc") (by walk_at "ev loc") get_last
theorem plain06 (ns : List Int) (hn : ns.length ≤ 63) : wpSs gv_law fns_law B_law ⟨fun i => if i = 0 then some (.lst 0) else none, [ns.map .int], []⟩ fun fl _ => fl = .ret (.bool true) := by
  show wpSs gv_law fns_law (.cons _ (.cons _ w2)) _ _
  repeat' (first | walk_at "ev" | dsimp only)
  refine ⟨3, rfl, s_slice rfl rfl (by simp [sizeLine]; omega) ?_⟩
  rw [pick_map]
  generalize hms : pick ns none (some 3) = ms
  have hml : ms.length ≤ 63 := by have := pick_len ns none (some 3); rw [hms] at this; omega
  repeat' (first | walk_at "ev" | dsimp only)
  refine l_new rfl (show 0 ≤ sizeLine by decide) ?_
  cases ms with
  | nil =>
    refine c_ne rfl rfl get_last trivial ⟨(by intro hf; cases hf), fun _ => ?_⟩
    exact i_const (rest06 (i := 1) (ms := []) (by walk_at "ev loc") loc_set_eq rfl hml)
  | cons m ms =>
    refine c_neLen rfl rfl get_last (by simp) ⟨fun _ => ?_, (by intro hf; cases hf)⟩
    refine i_sub (i_loc (by walk_at "ev loc") (i_const (s_item (v := .int m) rfl rfl (by decide) (by decide) rfl ?_)))
    exact rest06 (i := 1) (ms := m :: ms) (by walk_at "ev loc") loc_set_eq rfl hml

end Mine

theorem PySem.Challenge.cw_dm0026_06_holds : PySem.Challenge.rw_dm0026_06.Holds := by
  refine Mine.hd06 rfl rfl rfl ?_
  intro w s₀ s₁ mg mb G Y fa o pm cd doc dV kV ho hd hcd hD hmg hg args vals as hpre hlay hrd hwl hlo
  have KX := kIn_of Y
  have V := (Ground.X G).2
  refine Ground.open G ?_
  intro T B D TE TW
  clear B D TE TW Y hmg
  have TA := at_of_top T
  wrow_args hpre hlay hrd hwl hlo
  refine enter_call ?_
  w_top on
  refine codeAny_mono ?_ (fun _ _ g => GoodW.toG g)
  have K0 := below_caller (Top.heap T)
  w_call any ho hd hcd hD T F
  rename Top _ _ _ _ _ _ => T
  rename Fr _ _ _ _ => F
  rename News _ _ _ _ => N
  rename LooseAre _ _ _ => V
  rename IntsAre _ _ => hI
  rename Heap.IsList _ _ _ => hL
  rename _ = #[] => hg
  rename ¬ _ < _ => hlen
  rename Frag.In _ _ => KX
  refine Mine.law_start63 T (Mine.nb_of (KX cStatics _ (by kernel_rfl))) F N hL hI rfl (by decide) ?cells (K := Mine.K_law) (ps := Mine.dropS Mine.B_law) (gval := Mine.gv_law) (fns := Mine.fns_law) (fa := Mine.faOf _ _ ["_law_crowds", "_law_lowest", "rgb_to_hsv"]) (by decide +kernel) rfl rfl rfl rfl rfl rfl (fun C h1 h2 h3 h4 h5 Fo => have t := Mine.top_all h5 (by decide +kernel); Mine.ok_law (Mine.facts T V) 7 C h1 h2 h3 h4 Fo t.1 t.2.1 t.2.2) (Mine.plain06 _ (by omega)) ?_
  case cells =>
    intro x hx
    rcases List.mem_cons.mp hx with rfl | hx
    · first | exact ⟨_, _, rfl, .head _, _, by assumption⟩ | exact ⟨_, _, rfl, .tail _ (.head _), _, by assumption⟩ | exact ⟨_, _, rfl, .tail _ (.tail _ (.head _)), _, by assumption⟩ | exact ⟨_, _, rfl, .tail _ (.tail _ (.tail _ (.head _))), _, by assumption⟩
    · rcases List.mem_cons.mp hx with rfl | hx
      · first | exact ⟨_, _, rfl, .head _, _, by assumption⟩ | exact ⟨_, _, rfl, .tail _ (.head _), _, by assumption⟩ | exact ⟨_, _, rfl, .tail _ (.tail _ (.head _)), _, by assumption⟩ | exact ⟨_, _, rfl, .tail _ (.tail _ (.tail _ (.head _))), _, by assumption⟩
      · rcases List.mem_cons.mp hx with rfl | hx
        · first | exact ⟨_, _, rfl, .head _, _, by assumption⟩ | exact ⟨_, _, rfl, .tail _ (.head _), _, by assumption⟩ | exact ⟨_, _, rfl, .tail _ (.tail _ (.head _)), _, by assumption⟩ | exact ⟨_, _, rfl, .tail _ (.tail _ (.tail _ (.head _))), _, by assumption⟩
        · rcases List.mem_cons.mp hx with rfl | hx
          · first | exact ⟨_, _, rfl, .head _, _, by assumption⟩ | exact ⟨_, _, rfl, .tail _ (.head _), _, by assumption⟩ | exact ⟨_, _, rfl, .tail _ (.tail _ (.head _)), _, by assumption⟩ | exact ⟨_, _, rfl, .tail _ (.tail _ (.tail _ (.head _))), _, by assumption⟩
          · cases hx
  intro h' tk m' F'
  exact goodW_bool F' hg (fun _ => rfl) (by kernel_rfl) rfl
