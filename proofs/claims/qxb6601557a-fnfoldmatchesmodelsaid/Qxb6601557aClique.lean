/-
  The greedy clique cover, as plain functions. No Go in sight. By an AI agent.
-/
import Derived.Test.Qxb6601557aCount
namespace Go.Proofs.Qxb6601557a
set_option linter.unusedVariables false

def memN (n : Nat) (f : Nat → Nat) (x : Nat) : Bool := (List.range n).any fun j => f j == x
theorem memN_iff {n : Nat} {f : Nat → Nat} {x : Nat} : memN n f x = true ↔ ∃ j, j < n ∧ f j = x := by simp [memN]
theorem memN_false {n : Nat} {f : Nat → Nat} {x : Nat} : memN n f x = false ↔ ∀ j, j < n → f j ≠ x := by simp [memN]

def allB (n : Nat) (p : Nat → Bool) : Bool := (List.range n).all p
theorem allB_iff {n : Nat} {p : Nat → Bool} : allB n p = true ↔ ∀ i, i < n → p i = true := by simp [allB]

def upd1 {α : Type} (f : Nat → α) (k : Nat) (v : α) : Nat → α := fun j => if j = k then v else f j
theorem upd1_same {α : Type} (f : Nat → α) (k : Nat) (v : α) : upd1 f k v k = v := by simp [upd1]
theorem upd1_other {α : Type} (f : Nat → α) (k : Nat) (v : α) (j : Nat) (h : j ≠ k) : upd1 f k v j = f j := by simp [upd1, h]

/-- the cliques found so far: how many, their sizes, their members. -/
structure CSt where
  nc : Nat
  sz : Nat → Nat
  el : Nat → Nat → Nat

/-- the first largest one among those below c that fit. -/
def bestTo (fit : Nat → Bool) (sz : Nat → Nat) : Nat → Option Nat
  | 0 => none
  | c + 1 => match bestTo fit sz c with
    | none => if fit c then some c else none
    | some b => if fit c && decide (sz b < sz c) then some c else some b

def IsBest (fit : Nat → Bool) (sz : Nat → Nat) (n : Nat) : Option Nat → Prop
  | none => ∀ c, c < n → fit c = false
  | some b => b < n ∧ fit b = true ∧ ∀ c, c < n → fit c = true → sz c < sz b ∨ (sz c = sz b ∧ b ≤ c)

theorem bestTo_is (fit : Nat → Bool) (sz : Nat → Nat) (n : Nat) : IsBest fit sz n (bestTo fit sz n) := by
  induction n with
  | zero => exact fun c hc => absurd hc (Nat.not_lt_zero c)
  | succ n ih =>
    rw [bestTo]
    cases hb : bestTo fit sz n with
    | none =>
      rw [hb] at ih
      by_cases hf : fit n = true
      · simp only [hf, if_true]
        refine ⟨by omega, hf, fun c hc hfc => ?_⟩
        by_cases e : c = n
        · subst e; omega
        · have := ih c (by omega); rw [this] at hfc; cases hfc
      · simp only [hf, Bool.false_eq_true, if_false]
        intro c hc
        by_cases e : c = n
        · subst e; simpa using hf
        · exact ih c (by omega)
    | some b =>
      rw [hb] at ih
      obtain ⟨h1, h2, h3⟩ := ih
      by_cases hf : fit n = true ∧ sz b < sz n
      · simp only [hf.1, hf.2, decide_true, Bool.and_self, if_true]
        refine ⟨by omega, hf.1, fun c hc hfc => ?_⟩
        by_cases e : c = n
        · subst e; omega
        · have := h3 c (by omega) hfc; omega
      · have : (fit n && decide (sz b < sz n)) = false := by
          rw [Bool.and_eq_false_iff]
          by_cases hx : fit n = true
          · right; simpa using fun h => hf ⟨hx, h⟩
          · left; simpa using hx
        simp only [this, Bool.false_eq_true, if_false]
        refine ⟨by omega, h2, fun c hc hfc => ?_⟩
        by_cases e : c = n
        · subst e
          have : ¬ sz b < sz c := fun h => hf ⟨hfc, h⟩
          omega
        · exact h3 c (by omega) hfc

theorem IsBest.uniq {fit : Nat → Bool} {sz : Nat → Nat} {n : Nat} {a b : Option Nat} (ha : IsBest fit sz n a) (hb : IsBest fit sz n b) : a = b := by
  cases a with
  | none => cases b with
    | none => rfl
    | some b => have := ha b hb.1; rw [hb.2.1] at this; cases this
  | some a => cases b with
    | none => have := hb a ha.1; rw [ha.2.1] at this; cases this
    | some b =>
      have h1 := ha.2.2 b hb.1 hb.2.1
      have h2 := hb.2.2 a ha.1 ha.2.1
      congr 1
      omega

section
variable (d : Nat → Nat) (N : Nat → Nat → Nat)

def fitB (s : CSt) (p c : Nat) : Bool := allB (s.sz c) fun i => memN (d p) (N p) (s.el c i)
def joinOf (s : CSt) (p : Nat) : Nat := (bestTo (fitB d N s p) s.sz s.nc).getD s.nc
def putC (s : CSt) (j p : Nat) : CSt := ⟨if j = s.nc then s.nc + 1 else s.nc, upd1 s.sz j (s.sz j + 1), upd1 s.el j (upd1 (s.el j) (s.sz j) p)⟩
def stepC (s : CSt) (p : Nat) : CSt := putC s (joinOf d N s p) p
def runC (O : Nat → Nat) : Nat → CSt
  | 0 => ⟨0, fun _ => 0, fun _ _ => 0⟩
  | m + 1 => stepC d N (runC O m) (O m)
/-- the clique of each place, counted from 1; 0: none yet. -/
def whC (O : Nat → Nat) : Nat → Nat → Nat
  | 0 => fun _ => 0
  | m + 1 => upd1 (whC O m) (O m) (joinOf d N (runC d N O m) (O m) + 1)

theorem joinOf_le (s : CSt) (p : Nat) : joinOf d N s p ≤ s.nc := by
  unfold joinOf
  have h := bestTo_is (fitB d N s p) s.sz s.nc
  cases hb : bestTo (fitB d N s p) s.sz s.nc with
  | none => simp
  | some b => rw [hb] at h; have := h.1; simp; omega

structure CInv (O : Nat → Nat) (m : Nat) (s : CSt) (wh : Nat → Nat) : Prop where
  pos : ∀ c, c < s.nc → 0 < s.sz c
  zero : ∀ c, s.nc ≤ c → s.sz c = 0
  whm : ∀ c i, i < s.sz c → wh (s.el c i) = c + 1
  mem : ∀ c i, i < s.sz c → ∃ k, k < m ∧ s.el c i = O k
  ord : ∀ c i j, i < j → j < s.sz c → ∃ k l, k < l ∧ l < m ∧ s.el c i = O k ∧ s.el c j = O l
  cov : ∀ q, wh q ≠ 0 → ∃ i, i < s.sz (wh q - 1) ∧ s.el (wh q - 1) i = q
  whle : ∀ q, wh q ≤ s.nc
  who : ∀ k, k < m → wh (O k) ≠ 0
  whk : ∀ q, wh q ≠ 0 → ∃ k, k < m ∧ q = O k
  ncle : s.nc ≤ m
  adj : ∀ c i j, i < j → j < s.sz c → memN (d (s.el c j)) (N (s.el c j)) (s.el c i) = true

theorem cinv_run (O : Nat → Nat) (np : Nat) (hO : ∀ i j, i < np → j < np → O i = O j → i = j) (m : Nat) (hm : m ≤ np) : CInv d N O m (runC d N O m) (whC d N O m) := by
  induction m with
  | zero =>
    refine ⟨?_, ?_, ?_, ?_, ?_, ?_, ?_, ?_, ?_, ?_, ?_⟩ <;> simp [runC, whC]
  | succ m ih =>
    have h := ih (by omega)
    show CInv d N O (m + 1) (putC (runC d N O m) (joinOf d N (runC d N O m) (O m)) (O m)) (upd1 (whC d N O m) (O m) (joinOf d N (runC d N O m) (O m) + 1))
    have hle := joinOf_le d N (runC d N O m) (O m)
    have hbest := bestTo_is (fitB d N (runC d N O m) (O m)) (runC d N O m).sz (runC d N O m).nc
    have hfit : ∀ i, i < (runC d N O m).sz (joinOf d N (runC d N O m) (O m)) → memN (d (O m)) (N (O m)) ((runC d N O m).el (joinOf d N (runC d N O m) (O m)) i) = true := by
      intro i hi
      unfold joinOf at hi ⊢
      cases hb : bestTo (fitB d N (runC d N O m) (O m)) (runC d N O m).sz (runC d N O m).nc with
      | none =>
        rw [hb] at hi
        have := h.zero _ (Nat.le_refl _)
        simp [this] at hi
      | some b =>
        rw [hb] at hbest hi
        exact allB_iff.1 hbest.2.1 i hi
    have hnew : whC d N O m (O m) = 0 := by
      by_cases e : whC d N O m (O m) = 0
      · exact e
      · obtain ⟨k, hk, hek⟩ := h.whk _ e
        have := hO m k (by omega) (by omega) hek
        omega
    have hne : ∀ c i, i < (runC d N O m).sz c → (runC d N O m).el c i ≠ O m := by
      intro c i hi e
      have := h.whm c i hi
      rw [e, hnew] at this
      omega
    clear hbest
    generalize joinOf d N (runC d N O m) (O m) = j at *
    generalize whC d N O m = wh at *
    generalize runC d N O m = s at *
    have hsz : ∀ c, (putC s j (O m)).sz c = if c = j then s.sz j + 1 else s.sz c := fun c => rfl
    have hel : ∀ c i, i < (putC s j (O m)).sz c → (c = j ∧ i = s.sz j ∧ (putC s j (O m)).el c i = O m) ∨ (i < s.sz c ∧ (putC s j (O m)).el c i = s.el c i) := by
      intro c i hi
      rw [hsz] at hi
      show (c = j ∧ i = s.sz j ∧ upd1 s.el j (upd1 (s.el j) (s.sz j) (O m)) c i = O m) ∨ (i < s.sz c ∧ upd1 s.el j (upd1 (s.el j) (s.sz j) (O m)) c i = s.el c i)
      by_cases e : c = j
      · subst e
        rw [if_pos rfl] at hi
        rw [upd1_same]
        by_cases e' : i = s.sz c
        · subst e'; left; rw [upd1_same]; simp
        · right; rw [upd1_other _ _ _ _ e']; exact ⟨by omega, rfl⟩
      · rw [if_neg e] at hi
        right; rw [upd1_other _ _ _ _ e]; exact ⟨hi, rfl⟩
    have hnc : (putC s j (O m)).nc = if j = s.nc then s.nc + 1 else s.nc := rfl
    generalize putC s j (O m) = t at *
    refine ⟨?_, ?_, ?_, ?_, ?_, ?_, ?_, ?_, ?_, ?_, ?_⟩
    · intro c hc
      rw [hsz]
      split
      · omega
      · rename_i e
        exact h.pos c (by rw [hnc] at hc; split at hc <;> omega)
    · intro c hc
      rw [hsz]
      rw [hnc] at hc
      split at hc
      · rw [if_neg (by omega)]; exact h.zero c (by omega)
      · rw [if_neg (by omega)]; exact h.zero c hc
    · intro c i hi
      rcases hel c i hi with ⟨rfl, _, e⟩ | ⟨hi', e⟩
      · rw [e, upd1_same]
      · rw [e, upd1_other _ _ _ _ (hne c i hi')]; exact h.whm c i hi'
    · intro c i hi
      rcases hel c i hi with ⟨rfl, _, e⟩ | ⟨hi', e⟩
      · exact ⟨m, by omega, e⟩
      · obtain ⟨k, hk, hek⟩ := h.mem c i hi'
        exact ⟨k, by omega, e.trans hek⟩
    · intro c i j' hij hj'
      rcases hel c j' hj' with ⟨rfl, e1, e⟩ | ⟨hj2, e⟩
      · rcases hel c i (by omega) with ⟨_, e2, _⟩ | ⟨hi', e'⟩
        · omega
        · obtain ⟨k, hk, hek⟩ := h.mem c i hi'
          exact ⟨k, m, hk, by omega, e'.trans hek, e⟩
      · rcases hel c i (by omega) with ⟨rfl, e2, _⟩ | ⟨hi', e'⟩
        · omega
        · obtain ⟨k, l, h1, h2, h3, h4⟩ := h.ord c i j' hij hj2
          exact ⟨k, l, h1, by omega, e'.trans h3, e.trans h4⟩
    · intro q hq
      by_cases e : q = O m
      · subst e
        rw [upd1_same] at hq ⊢
        refine ⟨s.sz j, ?_, ?_⟩
        · rw [hsz]; simp
        · rcases hel j (s.sz j) (by rw [hsz]; simp) with ⟨_, _, e⟩ | ⟨hi', _⟩
          · simpa using e
          · omega
      · rw [upd1_other _ _ _ _ e] at hq ⊢
        obtain ⟨i, hi, hei⟩ := h.cov q hq
        refine ⟨i, ?_, ?_⟩
        · rw [hsz]; split
          · rename_i e2; rw [e2] at hi; omega
          · exact hi
        · rcases hel (wh q - 1) i (by rw [hsz]; split; · rename_i e2; rw [e2] at hi; omega
                                      · exact hi) with ⟨e1, e2, _⟩ | ⟨_, e'⟩
          · rw [e1] at hi; omega
          · exact e'.trans hei
    · intro q
      have h1 := h.whle q
      unfold upd1
      rw [hnc]
      split <;> split <;> omega
    · intro k hk
      by_cases e : O k = O m
      · rw [e, upd1_same]; omega
      · rw [upd1_other _ _ _ _ e]
        by_cases e' : k = m
        · subst e'; exact absurd rfl e
        · exact h.who k (by omega)
    · intro q hq
      by_cases e : q = O m
      · exact ⟨m, by omega, e⟩
      · rw [upd1_other _ _ _ _ e] at hq
        obtain ⟨k, hk, hek⟩ := h.whk q hq
        exact ⟨k, by omega, hek⟩
    · have := h.ncle
      rw [hnc]
      split <;> omega
    · intro c i j' hij hj'
      rcases hel c j' hj' with ⟨rfl, e1, e⟩ | ⟨hj2, e⟩
      · rcases hel c i (by omega) with ⟨_, e2, _⟩ | ⟨hi', e'⟩
        · omega
        · rw [e, e']; exact hfit i hi'
      · rcases hel c i (by omega) with ⟨rfl, e2, _⟩ | ⟨hi', e'⟩
        · omega
        · rw [e, e']; exact h.adj c i j' hij hj2

end

/-- counting the matches from either side. -/
theorem cnt_match : ∀ (n m : Nat) (x y : Nat → Nat), (∀ i j, i < n → j < n → x i = x j → i = j) → (∀ i j, i < m → j < m → y i = y j → i = j) →
    cnt n (fun i => memN m y (x i)) = cnt m (fun k => memN n x (y k))
  | 0, m, x, y, _, _ => by
    rw [cnt_zero, cnt_none]
    intro i hi
    rw [memN_false]
    intro j hj
    omega
  | n + 1, m, x, y, hx, hy => by
    rw [cnt_succ, cnt_match n m x y (fun i j hi hj => hx i j (by omega) (by omega)) hy]
    by_cases hmem : memN m y (x n) = true
    · obtain ⟨k, hk, e⟩ := memN_iff.1 hmem
      have e1 : cnt m (fun k => memN (n + 1) x (y k)) = cnt m (fun k => memN n x (y k)) + cnt m (fun k' => decide (k' = k)) := by
        refine cnt_or (fun k' hk' => ?_) (fun k' hk' h1 h2 => ?_)
        · rw [Bool.eq_iff_iff]
          simp only [Bool.or_eq_true, memN_iff, decide_eq_true_eq]
          constructor
          · rintro ⟨j, hj, ej⟩
            by_cases hjn : j = n
            · subst hjn; right; exact hy k' k hk' hk (by rw [e, ← ej])
            · left; exact ⟨j, by omega, ej⟩
          · rintro (⟨j, hj, ej⟩ | rfl)
            · exact ⟨j, by omega, ej⟩
            · exact ⟨n, by omega, e.symm⟩
        · obtain ⟨j, hj, ej⟩ := memN_iff.1 h1
          simp only [decide_eq_true_eq] at h2
          subst h2
          have := hx j n (by omega) (by omega) (by rw [ej, e])
          omega
      have e2 : cnt m (fun k' => decide (k' = k)) = 1 := by
        have h1 : cnt m (fun k' => decide (k' = k)) = cnt (k + 1) (fun k' => decide (k' = k)) + cnt m (fun k' => decide (k' = k ∧ k < k')) := by
          clear hmem e e1 hx hy
          induction m with
          | zero => omega
          | succ m ih =>
            by_cases e : k = m
            · subst e
              rw [cnt_succ, cnt_succ, cnt_none (p := fun k' => decide (k' = k ∧ k < k')) (fun i hi => by simp; omega)]
              rw [cnt_none (n := k) (fun i hi => by simp; omega)]
              simp
            · rw [cnt_succ, cnt_succ m, ih (by omega)]
              simp [Ne.symm e]
        rw [h1, cnt_succ, cnt_none (n := k) (fun i hi => by simp; omega), cnt_none (n := m) (fun i hi => by simp; omega)]
        simp
      rw [e1, e2, hmem]
      simp
    · have hm' : memN m y (x n) = false := by simpa using hmem
      rw [hm']
      simp only [Bool.false_eq_true, if_false, Nat.add_zero]
      refine cnt_congr (fun k hk => ?_)
      rw [Bool.eq_iff_iff, memN_iff, memN_iff]
      constructor
      · rintro ⟨j, hj, ej⟩; exact ⟨j, by omega, ej⟩
      · rintro ⟨j, hj, ej⟩
        by_cases hjn : j = n
        · subst hjn
          exact absurd ej.symm (memN_false.1 hm' k hk)
        · exact ⟨j, by omega, ej⟩

theorem cnt_all {n : Nat} {p : Nat → Bool} : cnt n p = n ↔ ∀ i, i < n → p i = true := by
  induction n with
  | zero => simp [cnt]
  | succ n ih =>
    rw [cnt_succ]
    have hle := cnt_le n p
    constructor
    · intro h i hi
      by_cases hp : p n = true
      · rw [hp] at h
        simp at h
        by_cases e : i = n
        · subst e; exact hp
        · exact ih.1 h i (by omega)
      · simp [hp] at h; omega
    · intro h
      rw [ih.2 (fun i hi => h i (by omega)), h n (by omega)]
      simp

end Go.Proofs.Qxb6601557a
