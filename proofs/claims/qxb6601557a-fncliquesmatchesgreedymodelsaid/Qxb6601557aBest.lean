/-
  The model's best place is the first in order. By an AI agent.
-/
import Derived.Test.Qxb6601557aThr
namespace Go.Proofs.Qxb6601557a
set_option linter.unusedVariables false
open Go.RowKit

def sumN : Nat → (Nat → Nat) → Nat
  | 0, _ => 0
  | n + 1, f => sumN n f + f n

theorem sumN_congr : ∀ {n : Nat} {f g : Nat → Nat}, (∀ i, i < n → f i = g i) → sumN n f = sumN n g
  | 0, _, _, _ => rfl
  | n + 1, f, g, h => by
    show sumN n f + f n = sumN n g + g n
    rw [sumN_congr (fun i hi => h i (by omega)), h n (by omega)]
theorem sumN_zero : ∀ n : Nat, sumN n (fun _ => 0) = 0
  | 0 => rfl
  | n + 1 => sumN_zero n
theorem sumN_add (f g : Nat → Nat) : ∀ n, sumN n (fun i => f i + g i) = sumN n f + sumN n g
  | 0 => rfl
  | n + 1 => by
    show sumN n (fun i => f i + g i) + (f n + g n) = (sumN n f + f n) + (sumN n g + g n)
    rw [sumN_add f g n]; omega
theorem sumN_swap (F : Nat → Nat → Nat) (m : Nat) : ∀ n, sumN n (fun i => sumN m (F i)) = sumN m (fun k => sumN n (fun i => F i k))
  | 0 => (sumN_zero m).symm
  | n + 1 => by
    show sumN n (fun i => sumN m (F i)) + sumN m (F n) = sumN m (fun k => sumN n (fun i => F i k) + F n k)
    rw [sumN_swap F m n, sumN_add (fun k => sumN n (fun i => F i k)) (F n) m]
theorem sumN_one {k : Nat} (c : Nat) : ∀ {n : Nat}, k < n → sumN n (fun j => if j = k then c else 0) = c
  | 0, h => by omega
  | n + 1, h => by
    show sumN n (fun j => if j = k then c else 0) + (if n = k then c else 0) = c
    by_cases e : n = k
    · subst e
      rw [if_pos rfl, sumN_congr (g := fun _ => 0) (fun i hi => by rw [if_neg (by omega)]), sumN_zero]
      omega
    · rw [if_neg e, sumN_one c (by omega), Nat.add_zero]
theorem sumN_perm {n : Nat} {r : Nat → Nat} (hlt : ∀ i, i < n → r i < n) (hinj : ∀ i j, i < n → j < n → r i = r j → i = j) (f : Nat → Nat) : sumN n (fun i => f (r i)) = sumN n f := by
  have h1 : sumN n (fun i => f (r i)) = sumN n (fun i => sumN n (fun k => if k = r i then f (r i) else 0)) := sumN_congr (fun i hi => (sumN_one (f (r i)) (hlt i hi)).symm)
  rw [h1, sumN_swap (fun i k => if k = r i then f (r i) else 0)]
  refine sumN_congr (fun k hk => ?_)
  obtain ⟨i0, hi0, e⟩ := onto_of_inj n r hlt hinj k hk
  have h2 : sumN n (fun i => if k = r i then f (r i) else 0) = sumN n (fun i => if i = i0 then f k else 0) := sumN_congr (fun i hi => by
    by_cases e2 : i = i0
    · subst e2; rw [if_pos e.symm, if_pos rfl, e]
    · rw [if_neg e2, if_neg (fun h => e2 (hinj i i0 hi hi0 (by omega)))])
  rw [h2, sumN_one (f k) hi0]

section
variable (okk : Nat → Bool) (D : Nat → Int)

def bstI : Nat → Option Nat
  | 0 => none
  | m + 1 => if okk m && (match bstI m with | none => true | some b => decide (D b < D m)) then some m else bstI m

theorem bstI_no {m : Nat} (h : okk m = false) : bstI okk D (m + 1) = bstI okk D m := by
  show (if okk m && _ then _ else _) = _
  rw [h]; simp
theorem bstI_first {m : Nat} (h : okk m = true) (hb : bstI okk D m = none) : bstI okk D (m + 1) = some m := by
  show (if okk m && (match bstI okk D m with | none => true | some b => decide (D b < D m)) then _ else _) = _
  rw [h, hb]; simp
theorem bstI_more {m b : Nat} (h : okk m = true) (hb : bstI okk D m = some b) (hd : D b < D m) : bstI okk D (m + 1) = some m := by
  show (if okk m && (match bstI okk D m with | none => true | some b => decide (D b < D m)) then _ else _) = _
  rw [h, hb]; simp [hd]
theorem bstI_less {m b : Nat} (hb : bstI okk D m = some b) (hd : ¬ D b < D m) : bstI okk D (m + 1) = some b := by
  show (if okk m && (match bstI okk D m with | none => true | some b => decide (D b < D m)) then _ else bstI okk D m) = _
  rw [hb]; simp [hd]

theorem bstI_spec : ∀ m, (match bstI okk D m with
    | none => ∀ i, i < m → okk i = false
    | some b => b < m ∧ okk b = true ∧ ∀ i, i < m → okk i = true → i = b ∨ D i < D b ∨ (D i = D b ∧ b < i))
  | 0 => by show ∀ i, i < 0 → _; intro i hi; omega
  | m + 1 => by
    have ih := bstI_spec m
    cases hb : bstI okk D m with
    | none =>
      rw [hb] at ih
      cases h : okk m with
      | false =>
        rw [bstI_no okk D h, hb]
        intro i hi
        by_cases e : i = m
        · subst e; exact h
        · exact ih i (by omega)
      | true =>
        rw [bstI_first okk D h hb]
        refine ⟨by omega, h, fun i hi ho => ?_⟩
        by_cases e : i = m
        · exact .inl e
        · have hx := ih i (by omega); rw [hx] at ho; cases ho
    | some b =>
      rw [hb] at ih
      obtain ⟨h1, h2, h3⟩ := ih
      by_cases hd : D b < D m
      · cases h : okk m with
        | false =>
          rw [bstI_no okk D h, hb]
          refine ⟨by omega, h2, fun i hi ho => ?_⟩
          by_cases e : i = m
          · subst e; rw [h] at ho; cases ho
          · exact h3 i (by omega) ho
        | true =>
          rw [bstI_more okk D h hb hd]
          refine ⟨by omega, h, fun i hi ho => ?_⟩
          by_cases e : i = m
          · exact .inl e
          · have := h3 i (by omega) ho
            right; left
            rcases this with e | e | e
            · subst e; exact hd
            · omega
            · omega
      · rw [bstI_less okk D hb hd]
        refine ⟨by omega, h2, fun i hi ho => ?_⟩
        by_cases e : i = m
        · subst e; omega
        · exact h3 i (by omega) ho

theorem bstI_none {m : Nat} (h : bstI okk D m = none) : ∀ i, i < m → okk i = false := by
  have := bstI_spec okk D m; rw [h] at this; exact this
theorem bstI_some {m b : Nat} (h : bstI okk D m = some b) : b < m ∧ okk b = true ∧ ∀ i, i < m → okk i = true → i = b ∨ D i < D b ∨ (D i = D b ∧ b < i) := by
  have := bstI_spec okk D m; rw [h] at this; exact this

/-- the place stands no later than the best one. -/
def befB (o : Option Nat) (i : Nat) : Bool := match o with | none => true | some b => decide (i = b) || (decide (D b < D i) || (decide (D i = D b) && decide (i < b)))
end

section
variable {d : Nat → Nat} {N : Nat → Nat → Nat} {ok pl : Nat → Bool} {np t : Nat} {dg : Nat → Int} {P O : Nat → Nat}

theorem OrdOk.bef_iff (h : OrdOk np dg P t O) (hd : ∀ i, i < np → 0 ≤ dg (P i)) {i j : Nat} (hi : i < np) (hj : j < np) : bef (keyOf t dg P) i j ↔ (dg (P j) < dg (P i) ∨ (dg (P i) = dg (P j) ∧ i < j)) := by
  have t1 := h.top.le i hi
  have t2 := h.top.le j hj
  have d1 := hd i hi
  have d2 := hd j hj
  unfold bef keyOf
  omega

def okI (d : Nat → Nat) (N : Nat → Nat → Nat) (ok pl : Nat → Bool) (P : Nat → Nat) (i : Nat) : Bool := !pl (P i) && triB d N ok (P i)
/-- the model's best. -/
def bstT (d : Nat → Nat) (N : Nat → Nat → Nat) (ok pl : Nat → Bool) (dg : Nat → Int) (P : Nat → Nat) (m : Nat) : Option Nat := bstI (okI d N ok pl P) (fun i => dg (P i)) m

theorem tt_best (ho : OrdOk np dg P t O) (hd : ∀ i, i < np → 0 ≤ dg (P i)) : (ttTo d N ok pl O np).1 = (bstT d N ok pl dg P np).map (rk np (keyOf t dg P)) := by
  cases hb : bstT d N ok pl dg P np with
  | none =>
    have h1 := bstI_none _ _ hb
    cases hf : (ttTo d N ok pl O np).1 with
    | none => rfl
    | some k =>
      obtain ⟨hk, e1, e2, _⟩ := ttTo_some hf
      obtain ⟨i, hi, _, e⟩ := ho.mem k hk
      have := h1 i hi
      unfold okI at this
      rw [← e, e1, e2] at this
      cases this
  | some b =>
    obtain ⟨hbn, hbo, hbf⟩ := bstI_some _ _ hb
    have hbo' : pl (P b) = false ∧ triB d N ok (P b) = true := by unfold okI at hbo; simpa using hbo
    have hrb : rk np (keyOf t dg P) b < np := rk_lt hbn
    have eb := ho.at_ b hbn
    cases hf : (ttTo d N ok pl O np).1 with
    | none =>
      rcases ttTo_none hf _ hrb with h | h
      · rw [eb, hbo'.1] at h; cases h
      · rw [eb, hbo'.2] at h; cases h
    | some k =>
      obtain ⟨hk, e1, e2, hfirst⟩ := ttTo_some hf
      obtain ⟨i, hi, er, e⟩ := ho.mem k hk
      have hoi : okI d N ok pl P i = true := by unfold okI; rw [← e, e1, e2]; rfl
      have hni : ¬ rk np (keyOf t dg P) b < k := fun hl => by
        rcases hfirst _ hl with h | h
        · rw [eb, hbo'.1] at h; cases h
        · rw [eb, hbo'.2] at h; cases h
      rcases hbf i hi hoi with h | h
      · subst h; rw [← er]; rfl
      · have hbe : bef (keyOf t dg P) b i := (ho.bef_iff hd hbn hi).2 (by omega)
        exact absurd ((rk_lt_iff hbn hi).2 hbe) (by omega)

theorem tt_at_none (h : (ttTo d N ok pl O np).1 = none) {l : Nat} (hl : l ≤ np) : (ttTo d N ok pl O l).1.isSome = false := by
  cases hf : (ttTo d N ok pl O l).1.isSome with
  | false => rfl
  | true =>
    rw [ttTo_found_le d N ok hf hl] at h
    rw [h] at hf; cases hf

theorem tt_at_some {k : Nat} (h : (ttTo d N ok pl O np).1 = some k) {l : Nat} (hl : l ≤ np) : (ttTo d N ok pl O l).1.isSome = decide (k < l) := by
  rw [Bool.eq_iff_iff, decide_eq_true_eq]
  constructor
  · intro hf
    rw [ttTo_found_le d N ok hf hl] at h
    exact (ttTo_some h).1
  · intro hkl
    cases hf : (ttTo d N ok pl O l).1 with
    | some _ => rfl
    | none =>
      obtain ⟨_, e1, e2, _⟩ := ttTo_some h
      rcases ttTo_none hf k hkl with h | h
      · rw [e1] at h; cases h
      · rw [e2] at h; cases h

theorem tt_bef (ho : OrdOk np dg P t O) (hd : ∀ i, i < np → 0 ≤ dg (P i)) {i : Nat} (hi : i < np) : (ttTo d N ok pl O (rk np (keyOf t dg P) i)).1.isSome = !befB (fun i => dg (P i)) (bstT d N ok pl dg P np) i := by
  have hb := tt_best (d := d) (N := N) (ok := ok) (pl := pl) ho hd
  have hr : rk np (keyOf t dg P) i ≤ np := Nat.le_of_lt (rk_lt hi)
  cases hB : bstT d N ok pl dg P np with
  | none =>
    rw [hB] at hb
    rw [tt_at_none hb hr]; rfl
  | some b =>
    rw [hB] at hb
    have hbn := (bstI_some _ _ hB).1
    rw [tt_at_some hb hr, Bool.eq_iff_iff, decide_eq_true_eq, rk_lt_iff hbn hi, ho.bef_iff hd hbn hi]
    simp only [befB, Bool.not_eq_true', Bool.or_eq_false_iff, Bool.and_eq_false_iff, decide_eq_false_iff_not]
    by_cases e : i = b
    · subst e; omega
    · omega

/-- what the model adds for place i. -/
def cstI (d : Nat → Nat) (N : Nat → Nat → Nat) (ok pl : Nat → Bool) (dg : Nat → Int) (P : Nat → Nat) (o : Option Nat) (i : Nat) : Nat := if pl (P i) then 0 else if befB (fun i => dg (P i)) o i then triC d N ok (P i) else 0

theorem tt_cost : ∀ m, (ttTo d N ok pl O m).2 = sumN m (fun l => if (ttTo d N ok pl O l).1.isSome || pl (O l) then 0 else triC d N ok (O l))
  | 0 => rfl
  | m + 1 => by
    have ih := tt_cost m
    show (if (ttTo d N ok pl O m).1.isSome || pl (O m) then ttTo d N ok pl O m else _).2 = sumN m _ + (if (ttTo d N ok pl O m).1.isSome || pl (O m) then 0 else _)
    cases h : ((ttTo d N ok pl O m).1.isSome || pl (O m)) <;> simp [ih]

theorem tt_sum (ho : OrdOk np dg P t O) (hd : ∀ i, i < np → 0 ≤ dg (P i)) : (ttTo d N ok pl O np).2 = sumN np (cstI d N ok pl dg P (bstT d N ok pl dg P np)) := by
  rw [tt_cost, ← sumN_perm (r := rk np (keyOf t dg P)) (fun i hi => rk_lt hi) (fun i j hi hj e => rk_inj hi hj e)]
  refine sumN_congr (fun i hi => ?_)
  rw [ho.at_ i hi, tt_bef ho hd hi]
  unfold cstI
  cases pl (P i) <;> cases befB (fun i => dg (P i)) (bstT d N ok pl dg P np) i <;> rfl

/-- the thread that is answered. -/
theorem tt_place (ho : OrdOk np dg P t O) (hd : ∀ i, i < np → 0 ≤ dg (P i)) : ttP (ttTo d N ok pl O np) O = (match bstT d N ok pl dg P np with | some b => P b | none => 0) ∧ (ttTo d N ok pl O np).1.isSome = (bstT d N ok pl dg P np).isSome := by
  have hb := tt_best (d := d) (N := N) (ok := ok) (pl := pl) ho hd
  unfold ttP
  rw [hb]
  cases hB : bstT d N ok pl dg P np with
  | none => exact ⟨rfl, rfl⟩
  | some b => exact ⟨ho.at_ b (bstI_some _ _ hB).1, rfl⟩
end
end Go.Proofs.Qxb6601557a
