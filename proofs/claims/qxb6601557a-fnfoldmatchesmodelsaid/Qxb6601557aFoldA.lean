/-
  fold: what it is given, what it leaves, the merge. No Go in sight but the memory's words. By an AI agent.
-/
import Derived.Test.Qxb6601557aTake
namespace Go.Proofs.Qxb6601557a
set_option linter.unusedVariables false
open Go.RowKit

/-- a well formed graph of n places. -/
structure GN (n : Nat) (d : Nat → Nat) (N : Nat → Nat → Nat) : Prop where
  lt : ∀ p, p < n → ∀ i, i < d p → N p i < n
  ne : ∀ p, p < n → ∀ i, i < d p → N p i ≠ p
  inc : ∀ p, p < n → ∀ i j, i < j → j < d p → N p i < N p j
  sym : ∀ p, p < n → ∀ i, i < d p → ∃ j, j < d (N p i) ∧ N (N p i) j = p
  dle : ∀ p, p < n → d p ≤ 131072

/-- v is free and has just two free neighbours u and w, which are not linked. -/
structure Two (n : Nat) (d : Nat → Nat) (N : Nat → Nat → Nat) (st : Nat → Int) (v u w iu iw : Nat) : Prop where
  hv : v < n
  fv : st v = 0
  lt : iu < iw
  hw : iw < d v
  eu : N v iu = u
  ew : N v iw = w
  fu : st u = 0
  fw : st w = 0
  all : ∀ i, i < d v → st (N v i) = 0 → i = iu ∨ i = iw
  unl : ∀ i, i < d u → N u i ≠ w

structure FoldIn (n : Nat) (x : FA) (v u w iu iw : Nat) : Prop where
  l0 : x.L 0 = n
  l1 : x.L 1 = n
  l2 : x.L 2 = n
  l8 : x.L 8 = n
  hn : n ≤ 131072
  gr : GN n x.d x.N
  full : ∀ p, p < n → x.rc p = x.d p
  two : Two n x.d x.N x.st v u w iu iw
  l3 : x.L 3 ≤ 131072
  l6 : x.L 6 ≤ 131072
  l7 : x.L 7 ≤ 131072
  l9 : x.L 9 ≤ 131072
  l10 : x.L 10 ≤ 1048576
  l11 : x.L 11 ≤ 131072

/-- k of the takes. -/
def TK (vs : Nat → Nat) (x : FA) : Nat → FA → Prop
  | 0, y => y = x
  | k + 1, y => ∃ z, TK vs x k z ∧ TakeR z y (vs k)

theorem TK.g {vs : Nat → Nat} {x : FA} : ∀ {k : Nat} {y : FA}, TK vs x k y → EqG x y
  | 0, y, h => by rw [show y = x from h]; exact EqG.refl x
  | k + 1, y, ⟨z, h1, h2⟩ => (TK.g h1).trans h2.g

theorem TK.l3 {vs : Nat → Nat} {x : FA} : ∀ {k : Nat} {y : FA}, TK vs x k y → y.L 3 = x.L 3 + k
  | 0, y, h => by rw [show y = x from h]; rfl
  | k + 1, y, ⟨z, h1, h2⟩ => by rw [h2.l3, TK.l3 h1]; omega

theorem TK.l7 {vs : Nat → Nat} {x : FA} (hd : ∀ k, x.d (vs k) ≤ 131072) : ∀ {k : Nat} {y : FA}, TK vs x k y → y.L 7 ≤ x.L 7 + 131072 * k
  | 0, y, h => by rw [show y = x from h]; exact Nat.le_refl _
  | k + 1, y, ⟨z, h1, h2⟩ => by
    have h3 := TK.l7 hd h1
    have h4 := runT_nu (upd z.st (vs k) 3) (z.N (vs k)) z.ts (z.d (vs k))
    rw [← h2.ts] at h4
    have h5 : y.L 7 ≤ z.L 7 + z.d (vs k) := h4
    have h6 := hd k
    rw [← (TK.g h1).d] at h6
    omega

def three (v u w : Nat) (k : Nat) : Nat := if k = 0 then v else if k = 1 then u else w
def four (n v u w : Nat) (i : Nat) : Int := if i = 0 then n else if i = 1 then v else if i = 2 then u else w

/-- what fold leaves. 'y': the search behind the three takes. -/
structure FoldR (n : Nat) (x x' : FA) (v u w nm : Nat) (mk : Nat → Nat) (y : FA) : Prop where
  tk : TK (three v u w) { x with s4 := wrap64 (x.s4 + (x.d u + x.d w : Nat)) } 3 y
  l0 : x'.L 0 = n + 1
  l1 : x'.L 1 = n + 1
  l2 : x'.L 2 = n + 1
  l8 : x'.L 8 = n + 1
  d : ∀ p, p < n → x'.d p = x.d p + (if memN nm mk p then 1 else 0)
  dn : x'.d n = nm
  N : ∀ p, p < n → ∀ i, i < x.d p → x'.N p i = x.N p i
  Nm : ∀ p, p < n → memN nm mk p = true → x'.N p (x.d p) = n
  Nn : ∀ i, i < nm → x'.N n i = mk i
  st : x'.st = upd y.st n 0
  dg : ∀ p, p < n → x'.dg p = if memN nm mk p then wrap64 (y.dg p + 1) else y.dg p
  dgn : x'.dg n = nm
  l3 : x'.L 3 = y.L 3 + 1
  tr : x'.tr = upd y.tr (y.L 3) (-1 - (x.L 6 : Int))
  ts : x'.ts = tS ⟨upd y.qu n false, y.L 7, y.tu⟩ n
  l9 : x'.L 9 = x.L 9 + 1
  ma : x'.ma = upd x.ma (x.L 9) (-1)
  l10 : x'.L 10 = x.L 10 + 1
  sd : x'.sd = upd x.sd (x.L 10) 0
  l11 : x'.L 11 = x.L 11 + 1
  sc : x'.sc = upd x.sc (x.L 11) 0
  l6 : x'.L 6 = x.L 6 + 1
  F : x'.F = upd x.F (x.L 6) (four n v u w)
  s4 : x'.s4 = y.s4

/-- the made thread's neighbours: those of u and of w that fit, in increasing order. -/
structure Made (n : Nat) (d : Nat → Nat) (N : Nat → Nat → Nat) (ok : Nat → Bool) (u w nm : Nat) (mk : Nat → Nat) : Prop where
  inc : ∀ i j, i < j → j < nm → mk i < mk j
  mem : ∀ q, (∃ k, k < nm ∧ mk k = q) ↔ ((∃ i, i < d u ∧ N u i = q) ∨ ∃ j, j < d w ∧ N w j = q) ∧ ok q = true

/-- among the first i of f, the first j of g. -/
def InM (f g : Nat → Nat) (i j q : Nat) : Prop := (∃ k, k < i ∧ f k = q) ∨ ∃ k, k < j ∧ g k = q

/-- the merge: i of the row f (of m), j of the row g (of l) have gone over. -/
structure MergeOk (f g : Nat → Nat) (m l : Nat) (ok : Nat → Bool) (i j nm : Nat) (mk : Nat → Nat) : Prop where
  inc : ∀ a b, a < b → b < nm → mk a < mk b
  mem : ∀ q, (∃ k, k < nm ∧ mk k = q) ↔ InM f g i j q ∧ ok q = true
  lo1 : ∀ q, InM f g i j q → ∀ k, i ≤ k → k < m → q < f k
  lo2 : ∀ q, InM f g i j q → ∀ k, j ≤ k → k < l → q < g k
  nle : nm ≤ i + j

section
variable {f g : Nat → Nat} {m l : Nat} {ok : Nat → Bool} {i j nm : Nat} {mk : Nat → Nat}

theorem MergeOk.zero (f g : Nat → Nat) (m l : Nat) (ok : Nat → Bool) (mk : Nat → Nat) : MergeOk f g m l ok 0 0 0 mk :=
  ⟨fun a b _ hb => absurd hb (Nat.not_lt_zero b), fun q => ⟨fun ⟨k, hk, _⟩ => absurd hk (Nat.not_lt_zero k), fun h => by rcases h.1 with ⟨k, hk, _⟩ | ⟨k, hk, _⟩ <;> exact absurd hk (Nat.not_lt_zero k)⟩,
    fun q h => by rcases h with ⟨k, hk, _⟩ | ⟨k, hk, _⟩ <;> exact absurd hk (Nat.not_lt_zero k), fun q h => by rcases h with ⟨k, hk, _⟩ | ⟨k, hk, _⟩ <;> exact absurd hk (Nat.not_lt_zero k), Nat.zero_le _⟩

/-- one step: the number r goes over. -/
theorem MergeOk.step (h : MergeOk f g m l ok i j nm mk) (r i' j' : Nat) (hij : i + j + 1 ≤ i' + j') (hin : ∀ q, InM f g i' j' q ↔ InM f g i j q ∨ q = r) (hr : ∀ q, InM f g i j q → q < r)
    (h1 : ∀ k, i' ≤ k → k < m → r < f k) (h2 : ∀ k, j' ≤ k → k < l → r < g k) (hi : i ≤ i') (hj : j ≤ j') :
    (ok r = true → MergeOk f g m l ok i' j' (nm + 1) (upd mk nm r)) ∧ (ok r = false → MergeOk f g m l ok i' j' nm mk) := by
  have L1 : ∀ q, InM f g i' j' q → ∀ k, i' ≤ k → k < m → q < f k := fun q hq k hk hm => by
    rcases (hin q).1 hq with h3 | rfl
    · exact h.lo1 q h3 k (by omega) hm
    · exact h1 k hk hm
  have L2 : ∀ q, InM f g i' j' q → ∀ k, j' ≤ k → k < l → q < g k := fun q hq k hk hm => by
    rcases (hin q).1 hq with h3 | rfl
    · exact h.lo2 q h3 k (by omega) hm
    · exact h2 k hk hm
  have hn := h.nle
  refine ⟨fun hok => ⟨fun a b hab hb => ?_, fun q => ⟨fun ⟨k, hk, e⟩ => ?_, fun ⟨hq, ho⟩ => ?_⟩, L1, L2, by omega⟩, fun hok => ⟨h.inc, fun q => ⟨fun hk => ?_, fun ⟨hq, ho⟩ => ?_⟩, L1, L2, by omega⟩⟩
  · by_cases e : b = nm
    · subst e
      rw [upd_same, upd_other _ _ _ _ (by omega)]
      exact hr _ ((h.mem (mk a)).1 ⟨a, hab, rfl⟩).1
    · rw [upd_other _ _ _ _ e, upd_other _ _ _ _ (by omega)]; exact h.inc a b hab (by omega)
  · by_cases e2 : k = nm
    · subst e2
      rw [upd_same] at e
      subst e
      exact ⟨(hin r).2 (.inr rfl), hok⟩
    · rw [upd_other _ _ _ _ e2] at e
      obtain ⟨h3, h4⟩ := (h.mem q).1 ⟨k, by omega, e⟩
      exact ⟨(hin q).2 (.inl h3), h4⟩
  · rcases (hin q).1 hq with h3 | rfl
    · obtain ⟨k, hk, e⟩ := (h.mem q).2 ⟨h3, ho⟩
      exact ⟨k, by omega, by rw [upd_other _ _ _ _ (by omega)]; exact e⟩
    · exact ⟨nm, by omega, upd_same _ _ _⟩
  · obtain ⟨h3, h4⟩ := (h.mem q).1 hk
    exact ⟨(hin q).2 (.inl h3), h4⟩
  · rcases (hin q).1 hq with h3 | rfl
    · exact (h.mem q).2 ⟨h3, ho⟩
    · rw [hok] at ho; cases ho

theorem MergeOk.left (h : MergeOk f g m l ok i j nm mk) (hf : ∀ a b, a < b → b < m → f a < f b) (hg : ∀ a b, a < b → b < l → g a < g b) (hi : i < m) (hlt : j < l → f i < g j) :
    (ok (f i) = true → MergeOk f g m l ok (i + 1) j (nm + 1) (upd mk nm (f i))) ∧ (ok (f i) = false → MergeOk f g m l ok (i + 1) j nm mk) := by
  refine h.step (f i) (i + 1) j (by omega) (fun q => ?_) (fun q hq => h.lo1 q hq i (Nat.le_refl _) hi) (fun k hk hm => hf i k (by omega) hm) (fun k hk hl => ?_) (by omega) (Nat.le_refl _)
  · constructor
    · rintro (⟨k, hk, e⟩ | ⟨k, hk, e⟩)
      · by_cases e2 : k = i
        · subst e2; exact .inr e.symm
        · exact .inl (.inl ⟨k, by omega, e⟩)
      · exact .inl (.inr ⟨k, hk, e⟩)
    · rintro ((⟨k, hk, e⟩ | ⟨k, hk, e⟩) | rfl)
      · exact .inl ⟨k, by omega, e⟩
      · exact .inr ⟨k, hk, e⟩
      · exact .inl ⟨i, by omega, rfl⟩
  · have h1 := hlt (by omega)
    by_cases e : k = j
    · subst e; exact h1
    · have := hg j k (by omega) hl; omega

theorem MergeOk.right (h : MergeOk f g m l ok i j nm mk) (hf : ∀ a b, a < b → b < m → f a < f b) (hg : ∀ a b, a < b → b < l → g a < g b) (hj : j < l) (hlt : i < m → g j < f i) :
    (ok (g j) = true → MergeOk f g m l ok i (j + 1) (nm + 1) (upd mk nm (g j))) ∧ (ok (g j) = false → MergeOk f g m l ok i (j + 1) nm mk) := by
  refine h.step (g j) i (j + 1) (by omega) (fun q => ?_) (fun q hq => h.lo2 q hq j (Nat.le_refl _) hj) (fun k hk hl => ?_) (fun k hk hm => hg j k (by omega) hm) (Nat.le_refl _) (by omega)
  · constructor
    · rintro (⟨k, hk, e⟩ | ⟨k, hk, e⟩)
      · exact .inl (.inl ⟨k, hk, e⟩)
      · by_cases e2 : k = j
        · subst e2; exact .inr e.symm
        · exact .inl (.inr ⟨k, by omega, e⟩)
    · rintro ((⟨k, hk, e⟩ | ⟨k, hk, e⟩) | rfl)
      · exact .inl ⟨k, hk, e⟩
      · exact .inr ⟨k, by omega, e⟩
      · exact .inr ⟨j, by omega, rfl⟩
  · have h1 := hlt (by omega)
    by_cases e : k = i
    · subst e; exact h1
    · have := hf i k (by omega) hl; omega

theorem MergeOk.both (h : MergeOk f g m l ok i j nm mk) (hf : ∀ a b, a < b → b < m → f a < f b) (hg : ∀ a b, a < b → b < l → g a < g b) (hi : i < m) (hj : j < l) (he : f i = g j) :
    (ok (f i) = true → MergeOk f g m l ok (i + 1) (j + 1) (nm + 1) (upd mk nm (f i))) ∧ (ok (f i) = false → MergeOk f g m l ok (i + 1) (j + 1) nm mk) := by
  refine h.step (f i) (i + 1) (j + 1) (by omega) (fun q => ?_) (fun q hq => h.lo1 q hq i (Nat.le_refl _) hi) (fun k hk hm => hf i k (by omega) hm) (fun k hk hl => by rw [he]; exact hg j k (by omega) hl) (by omega) (by omega)
  constructor
  · rintro (⟨k, hk, e⟩ | ⟨k, hk, e⟩)
    · by_cases e2 : k = i
      · subst e2; exact .inr e.symm
      · exact .inl (.inl ⟨k, by omega, e⟩)
    · by_cases e2 : k = j
      · subst e2; exact .inr (by rw [he]; exact e.symm)
      · exact .inl (.inr ⟨k, by omega, e⟩)
  · rintro ((⟨k, hk, e⟩ | ⟨k, hk, e⟩) | rfl)
    · exact .inl ⟨k, by omega, e⟩
    · exact .inr ⟨k, by omega, e⟩
    · exact .inl ⟨i, by omega, rfl⟩

theorem MergeOk.made {n : Nat} {d : Nat → Nat} {N : Nat → Nat → Nat} {u w : Nat} (h : MergeOk (N u) (N w) (d u) (d w) ok (d u) (d w) nm mk) : Made n d N ok u w nm mk := ⟨h.inc, h.mem⟩

end
end Go.Proofs.Qxb6601557a
