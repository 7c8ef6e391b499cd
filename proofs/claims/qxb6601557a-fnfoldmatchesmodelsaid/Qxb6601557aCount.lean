/-
  Counting, and the counting sort's places. No Go in sight. By an AI agent.
-/
namespace Go.Proofs.Qxb6601557a
set_option linter.unusedVariables false

/-- how many numbers below n fit p. -/
def cnt : Nat → (Nat → Bool) → Nat
  | 0, _ => 0
  | n + 1, p => cnt n p + (if p n then 1 else 0)

theorem cnt_zero (p : Nat → Bool) : cnt 0 p = 0 := rfl
theorem cnt_succ (n : Nat) (p : Nat → Bool) : cnt (n + 1) p = cnt n p + (if p n then 1 else 0) := rfl
theorem cnt_le (n : Nat) (p : Nat → Bool) : cnt n p ≤ n := by
  induction n with
  | zero => simp [cnt]
  | succ n ih => rw [cnt_succ]; split <;> omega
theorem cnt_congr {n : Nat} {p q : Nat → Bool} (h : ∀ i, i < n → p i = q i) : cnt n p = cnt n q := by
  induction n with
  | zero => rfl
  | succ n ih => rw [cnt_succ, cnt_succ, ih (fun i hi => h i (by omega)), h n (by omega)]
theorem cnt_none {n : Nat} {p : Nat → Bool} (h : ∀ i, i < n → p i = false) : cnt n p = 0 := by
  induction n with
  | zero => rfl
  | succ n ih => rw [cnt_succ, ih (fun i hi => h i (by omega)), h n (by omega)]; simp
theorem cnt_mono {n m : Nat} {p : Nat → Bool} (h : n ≤ m) : cnt n p ≤ cnt m p := by
  induction m with
  | zero =>
    have e : n = 0 := by omega
    rw [e]; exact Nat.le_refl _
  | succ m ih =>
    by_cases e : n = m + 1
    · subst e; simp
    · rw [cnt_succ]; have := ih (by omega); omega
theorem cnt_or {n : Nat} {p q r : Nat → Bool} (h : ∀ i, i < n → r i = (p i || q i)) (hd : ∀ i, i < n → p i = true → q i = true → False) : cnt n r = cnt n p + cnt n q := by
  induction n with
  | zero => rfl
  | succ n ih =>
    rw [cnt_succ, cnt_succ, cnt_succ, ih (fun i hi => h i (by omega)) (fun i hi => hd i (by omega)), h n (by omega)]
    have := hd n (by omega)
    cases hp : p n <;> cases hq : q n <;> simp_all <;> omega
theorem cnt_imp {n : Nat} {p q : Nat → Bool} (h : ∀ i, i < n → p i = true → q i = true) : cnt n p ≤ cnt n q := by
  induction n with
  | zero => exact Nat.le_refl _
  | succ n ih =>
    rw [cnt_succ, cnt_succ]
    have := ih (fun i hi => h i (by omega))
    have h2 := h n (by omega)
    cases hp : p n <;> cases hq : q n <;> simp_all
    omega
theorem cnt_pos {n : Nat} {p : Nat → Bool} {i : Nat} (hi : i < n) (hp : p i = true) : 1 ≤ cnt n p := by
  have h := cnt_mono (p := p) (show i + 1 ≤ n from hi)
  rw [cnt_succ, hp] at h
  simp at h
  omega
theorem cnt_ex {n : Nat} {p : Nat → Bool} (h : 0 < cnt n p) : ∃ i, i < n ∧ p i = true := by
  induction n with
  | zero => simp [cnt] at h
  | succ n ih =>
    rw [cnt_succ] at h
    by_cases hp : p n = true
    · exact ⟨n, by omega, hp⟩
    · simp [hp] at h
      obtain ⟨i, hi, hpi⟩ := ih h
      exact ⟨i, by omega, hpi⟩

/-- the place of i among n keys: the smaller ones first, equal ones in their order. -/
def rk (n : Nat) (K : Nat → Nat) (i : Nat) : Nat := cnt n (fun j => decide (K j < K i)) + cnt i (fun j => decide (K j = K i))

/-- i comes ahead of j. -/
def bef (K : Nat → Nat) (i j : Nat) : Prop := K i < K j ∨ (K i = K j ∧ i < j)

theorem rk_lt_of_bef {n : Nat} {K : Nat → Nat} {i j : Nat} (hi : i < n) (hj : j < n) (h : bef K i j) : rk n K i < rk n K j := by
  unfold rk
  rcases h with h | ⟨h, hij⟩
  · -- all that are counted for i are counted for j among the smaller ones
    have e : cnt n (fun k => decide (K k ≤ K i)) = cnt n (fun k => decide (K k < K i)) + cnt n (fun k => decide (K k = K i)) :=
      cnt_or (fun k _ => by rw [Bool.eq_iff_iff]; simp; omega) (fun k _ h1 h2 => by simp at h1 h2; omega)
    have e2 : cnt n (fun k => decide (K k ≤ K i)) ≤ cnt n (fun k => decide (K k < K j)) := cnt_imp (fun k _ h1 => by simp at h1 ⊢; omega)
    have e3 : cnt i (fun k => decide (K k = K i)) + 1 ≤ cnt n (fun k => decide (K k = K i)) := by
      have h3 := cnt_mono (p := fun k => decide (K k = K i)) (show i + 1 ≤ n from hi)
      rw [cnt_succ] at h3
      simpa using h3
    omega
  · rw [h]
    have h3 := cnt_mono (p := fun k => decide (K k = K j)) (show i + 1 ≤ j from hij)
    rw [cnt_succ] at h3
    simp [h] at h3
    omega

theorem bef_total {K : Nat → Nat} {i j : Nat} (h : i ≠ j) : bef K i j ∨ bef K j i := by
  unfold bef; omega

theorem rk_lt_iff {n : Nat} {K : Nat → Nat} {i j : Nat} (hi : i < n) (hj : j < n) : rk n K i < rk n K j ↔ bef K i j := by
  constructor
  · intro h
    by_cases e : i = j
    · subst e; omega
    · rcases bef_total (K := K) e with h1 | h1
      · exact h1
      · have := rk_lt_of_bef hj hi h1; omega
  · exact rk_lt_of_bef hi hj

theorem rk_inj {n : Nat} {K : Nat → Nat} {i j : Nat} (hi : i < n) (hj : j < n) (h : rk n K i = rk n K j) : i = j := by
  by_cases e : i = j
  · exact e
  · rcases bef_total (K := K) e with h1 | h1
    · have := rk_lt_of_bef hi hj h1; omega
    · have := rk_lt_of_bef hj hi h1; omega

theorem rk_lt {n : Nat} {K : Nat → Nat} {i : Nat} (hi : i < n) : rk n K i < n := by
  unfold rk
  have e : cnt n (fun k => decide (K k ≤ K i)) = cnt n (fun k => decide (K k < K i)) + cnt n (fun k => decide (K k = K i)) :=
    cnt_or (fun k _ => by rw [Bool.eq_iff_iff]; simp; omega) (fun k _ h1 h2 => by simp at h1 h2; omega)
  have e3 : cnt i (fun k => decide (K k = K i)) + 1 ≤ cnt n (fun k => decide (K k = K i)) := by
    have h3 := cnt_mono (p := fun k => decide (K k = K i)) (show i + 1 ≤ n from hi)
    rw [cnt_succ] at h3
    simpa using h3
  have := cnt_le n (fun k => decide (K k ≤ K i))
  omega

/-- an injective map of the numbers below n into themselves meets each of them. -/
theorem onto_of_inj : ∀ (n : Nat) (f : Nat → Nat), (∀ i, i < n → f i < n) → (∀ i j, i < n → j < n → f i = f j → i = j) → ∀ k, k < n → ∃ i, i < n ∧ f i = k
  | 0, _, _, _, k, hk => absurd hk (Nat.not_lt_zero k)
  | n + 1, f, hlt, hinj, k, hk => by
    -- swap so that n goes to n
    by_cases hn : ∃ i, i < n + 1 ∧ f i = k
    · exact hn
    · exfalso
      -- f misses k: fold the numbers above k down by one: an injective map of n + 1 into n
      have hne : ∀ i, i < n + 1 → f i ≠ k := fun i hi e => hn ⟨i, hi, e⟩
      let g : Nat → Nat := fun i => if f i < k then f i else f i - 1
      have g1 : ∀ i, i < n → g i < n := by
        intro i hi
        have h1 := hlt i (by omega)
        have h2 := hne i (by omega)
        show (if f i < k then f i else f i - 1) < n
        split <;> omega
      have g2 : ∀ i j, i < n → j < n → g i = g j → i = j := by
        intro i j hi hj e
        refine hinj i j (by omega) (by omega) ?_
        have h2 := hne i (by omega)
        have h3 := hne j (by omega)
        change (if f i < k then f i else f i - 1) = (if f j < k then f j else f j - 1) at e
        split at e <;> split at e <;> omega
      -- the image of n under g is met already
      have h1 := hlt n (by omega)
      have h2 := hne n (by omega)
      have hgn : (if f n < k then f n else f n - 1) < n := by split <;> omega
      obtain ⟨i, hi, e⟩ := onto_of_inj n g g1 g2 _ hgn
      have h3 := hne i (by omega)
      change (if f i < k then f i else f i - 1) = (if f n < k then f n else f n - 1) at e
      have : f i = f n := by split at e <;> split at e <;> omega
      have := hinj i n (by omega) (by omega) this
      omega

theorem rk_onto {n : Nat} {K : Nat → Nat} {k : Nat} (hk : k < n) : ∃ i, i < n ∧ rk n K i = k :=
  onto_of_inj n (rk n K) (fun i hi => rk_lt hi) (fun i j hi hj e => rk_inj hi hj e) k hk

end Go.Proofs.Qxb6601557a
