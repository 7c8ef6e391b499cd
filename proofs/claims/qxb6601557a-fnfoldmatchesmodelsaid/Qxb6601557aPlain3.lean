/-
  FnFoldMatchesModel: what fold leaves, in the law's own words. No walk here. By an AI agent.
-/
import Derived.Test.Qxb6601557aReg3
namespace Go.Proofs.Qxb6601557a
set_option linter.unusedVariables false
open Go.RowKit

theorem wr_add (a b : Int) : wrap64 (wrap64 a + b) = wrap64 (a + b) := by unfold wrap64; omega

theorem runT_qu (st : Nat → Int) (f : Nat → Nat) (s : TS) (m q : Nat) : (runT st f s m).qu q = (s.qu q || (memN m f q && isF st q)) := by
  induction m with
  | zero => simp [runT, memN]
  | succ m ih =>
    rw [memN_succ]
    unfold runT
    by_cases hz : st (f m) = 0
    · rw [if_pos hz]
      have htS : ∀ s : TS, ∀ r : Nat, (tS s r).qu q = (s.qu q || decide (r = q)) := by
        intro s r
        unfold tS
        by_cases hr : s.qu r = true
        · rw [if_pos hr]
          by_cases e : r = q
          · subst e; rw [hr]; simp
          · simp [e]
        · rw [if_neg hr]
          show upd s.qu r true q = _
          by_cases e : r = q
          · subst e; rw [upd_same]; simp
          · rw [upd_other _ _ _ _ (Ne.symm e)]; simp [e]
      rw [htS, ih]
      by_cases e : f m = q
      · subst e
        rw [isF_true hz]; simp
      · have : decide (f m = q) = false := by simpa using e
        rw [this]; simp
    · rw [if_neg hz, ih]
      by_cases e : f m = q
      · subst e
        rw [isF_false hz]; simp
      · have : decide (f m = q) = false := by simpa using e
        rw [this]; simp

def inR (X : FA) (p q : Nat) : Bool := memN (X.d p) (X.N p) q

/-- the law's degree of q. -/
def eD (X : FA) (v u w nm : Nat) (mk : Nat → Nat) (q : Nat) : Int :=
  if q = u ∨ q = w then wrap64 (X.dg q - 1)
  else if q ≠ v ∧ X.st q = 0 then
    (if memN nm mk q then wrap64 ((if inR X w q then wrap64 ((if inR X u q then wrap64 ((if inR X v q then wrap64 (X.dg q - 1) else X.dg q) - 1) else (if inR X v q then wrap64 (X.dg q - 1) else X.dg q)) - 1) else (if inR X u q then wrap64 ((if inR X v q then wrap64 (X.dg q - 1) else X.dg q) - 1) else (if inR X v q then wrap64 (X.dg q - 1) else X.dg q))) + 1)
     else (if inR X w q then wrap64 ((if inR X u q then wrap64 ((if inR X v q then wrap64 (X.dg q - 1) else X.dg q) - 1) else (if inR X v q then wrap64 (X.dg q - 1) else X.dg q)) - 1) else (if inR X u q then wrap64 ((if inR X v q then wrap64 (X.dg q - 1) else X.dg q) - 1) else (if inR X v q then wrap64 (X.dg q - 1) else X.dg q))))
  else X.dg q

section
variable {n : Nat} {x x' y : FA} {v u w iu iw nm : Nat} {mk : Nat → Nat}

theorem fold_dg (hgr : GN n x.d x.N) (ht : Two n x.d x.N x.st v u w iu iw) (hk : FoldK n x v u w iu iw nm mk) (hT : Taken n x y v u w) (hR : FoldR n x x' v u w nm mk y) (q : Nat) (hq : q < n) : x'.dg q = eD x v u w nm mk q := by
  have hy : y.dg q = if memN (x.d w) (x.N w) q && isF (upd (upd (upd x.st v 3) u 3) w 3) q then wrap64 ((if memN (x.d u) (x.N u) q && isF (upd (upd x.st v 3) u 3) q then wrap64 ((if memN (x.d v) (x.N v) q && isF (upd x.st v 3) q then wrap64 (x.dg q - 1) else x.dg q) - 1) else (if memN (x.d v) (x.N v) q && isF (upd x.st v 3) q then wrap64 (x.dg q - 1) else x.dg q)) - 1) else (if memN (x.d u) (x.N u) q && isF (upd (upd x.st v 3) u 3) q then wrap64 ((if memN (x.d v) (x.N v) q && isF (upd x.st v 3) q then wrap64 (x.dg q - 1) else x.dg q) - 1) else (if memN (x.d v) (x.N v) q && isF (upd x.st v 3) q then wrap64 (x.dg q - 1) else x.dg q)) := by
    rw [hT.dg, runD_at _ _ _ _ (hgr.inj hk.wn), runD_at _ _ _ _ (hgr.inj hk.un), runD_at _ _ _ _ (hgr.inj ht.hv)]
  have h3 : (3 : Int) ≠ 0 := by omega
  have hnm : ∀ p, (∀ i, i < nm → mk i ≠ p) → memN nm mk p = false := fun p hp => memN_false.2 hp
  have hvu : memN (x.d v) (x.N v) u = true := memN_iff.2 ⟨iu, by have := ht.lt; have := ht.hw; omega, ht.eu⟩
  have hvw : memN (x.d v) (x.N v) w = true := memN_iff.2 ⟨iw, ht.hw, ht.ew⟩
  have huw : memN (x.d u) (x.N u) w = false := memN_false.2 ht.unl
  rw [hR.dg q hq, hy]
  unfold eD inR
  by_cases e1 : q = u
  · subst e1
    rw [if_pos (show q = q ∨ q = w from .inl rfl), hnm q (fun i hi => (hk.mok i hi).2.1), hvu]
    have f1 : isF (upd x.st v 3) q = true := isF_true (by rw [upd_other _ _ _ _ hk.uv]; exact ht.fu)
    have f2 : isF (upd (upd x.st v 3) q 3) q = false := isF_false (by rw [upd_same]; exact h3)
    have f3 : isF (upd (upd (upd x.st v 3) q 3) w 3) q = false := isF_false (by rw [upd_other _ _ _ _ hk.uw, upd_same]; exact h3)
    rw [f1, f2, f3]; simp
  · by_cases e2 : q = w
    · subst e2
      rw [if_pos (show q = u ∨ q = q from .inr rfl), hnm q (fun i hi => (hk.mok i hi).2.2.1), hvw, huw]
      have f1 : isF (upd x.st v 3) q = true := isF_true (by rw [upd_other _ _ _ _ hk.wv]; exact ht.fw)
      have f3 : isF (upd (upd (upd x.st v 3) u 3) q 3) q = false := isF_false (by rw [upd_same]; exact h3)
      rw [f1, f3]; simp
    · rw [if_neg (show ¬ (q = u ∨ q = w) by omega)]
      by_cases e3 : q ≠ v ∧ x.st q = 0
      · rw [if_pos e3]
        have f1 : isF (upd x.st v 3) q = true := isF_true (by rw [upd_other _ _ _ _ e3.1]; exact e3.2)
        have f2 : isF (upd (upd x.st v 3) u 3) q = true := isF_true (by rw [upd_other _ _ _ _ e1, upd_other _ _ _ _ e3.1]; exact e3.2)
        have f3 : isF (upd (upd (upd x.st v 3) u 3) w 3) q = true := isF_true (by rw [upd_other _ _ _ _ e2, upd_other _ _ _ _ e1, upd_other _ _ _ _ e3.1]; exact e3.2)
        rw [f1, f2, f3]
        simp only [Bool.and_true]
      · rw [if_neg e3]
        have g1 : isF (upd x.st v 3) q = false := by
          by_cases e : q = v
          · subst e; exact isF_false (by rw [upd_same]; exact h3)
          · exact isF_false (by rw [upd_other _ _ _ _ e]; intro h; exact e3 ⟨e, h⟩)
        have g2 : isF (upd (upd x.st v 3) u 3) q = false := by unfold isF at g1 ⊢; rw [upd_other _ _ _ _ e1]; exact g1
        have g3 : isF (upd (upd (upd x.st v 3) u 3) w 3) q = false := by unfold isF at g2 ⊢; rw [upd_other _ _ _ _ e2]; exact g2
        have g4 : memN nm mk q = false := hnm q (fun i hi e => e3 ⟨by rw [← e]; exact (hk.mok i hi).1, by rw [← e]; exact (hk.mok i hi).2.2.2⟩)
        rw [g1, g2, g3, g4]; simp

theorem fold_st (hT : Taken n x y v u w) (hR : FoldR n x x' v u w nm mk y) (q : Nat) (hq : q < n) : x'.st q = if q = v ∨ q = u ∨ q = w then 3 else x.st q := by
  rw [hR.st, upd_other _ _ _ _ (by omega), hT.st]
  by_cases e2 : q = w
  · subst e2; rw [upd_same]; simp
  · rw [upd_other _ _ _ _ e2]
    by_cases e1 : q = u
    · subst e1; rw [upd_same]; simp
    · rw [upd_other _ _ _ _ e1]
      by_cases e0 : q = v
      · subst e0; rw [upd_same]; simp
      · rw [upd_other _ _ _ _ e0, if_neg (by omega)]

/-- the trail, the steps and what is touched behind the three takes. -/
structure Taken2 (x y : FA) (s : Int) (v u w : Nat) : Prop where
  tr : y.tr = upd (upd (upd x.tr (x.L 3) (v : Int)) (x.L 3 + 1) (u : Int)) (x.L 3 + 2) (w : Int)
  l3 : y.L 3 = x.L 3 + 3
  s4 : y.s4 = wrap64 (s + x.d v + x.d u + x.d w)
  ts : y.ts = runT (upd (upd (upd x.st v 3) u 3) w 3) (x.N w) (runT (upd (upd x.st v 3) u 3) (x.N u) (runT (upd x.st v 3) (x.N v) x.ts (x.d v)) (x.d u)) (x.d w)

theorem TK.taken2 {s : Int} (h : TK (three v u w) { x with s4 := s } 3 y) : Taken2 x y s v u w := by
  obtain ⟨z2, ⟨z1, ⟨z0, h0, k1⟩, k2⟩, k3⟩ := h
  have h0 : z0 = { x with s4 := s } := h0
  subst h0
  have e0 : three v u w 0 = v := rfl
  have e1 : three v u w 1 = u := rfl
  have e2 : three v u w 2 = w := rfl
  rw [e0] at k1
  rw [e1] at k2
  rw [e2] at k3
  have s1 : z1.st = upd x.st v 3 := k1.st
  have s2 : z2.st = upd (upd x.st v 3) u 3 := by rw [k2.st, s1]
  have N1 : z1.N = x.N := k1.g.N
  have d1 : z1.d = x.d := k1.g.d
  have N2 : z2.N = x.N := k2.g.N.trans N1
  have d2 : z2.d = x.d := k2.g.d.trans d1
  have l1 : z1.L 3 = x.L 3 + 1 := k1.l3
  have l2 : z2.L 3 = x.L 3 + 2 := by rw [k2.l3, l1]
  have t1 : z1.tr = upd x.tr (x.L 3) (v : Int) := k1.tr
  have t2 : z2.tr = upd (upd x.tr (x.L 3) (v : Int)) (x.L 3 + 1) (u : Int) := by rw [k2.tr, t1, l1]
  have q1 : z1.s4 = wrap64 (s + x.d v) := k1.s4
  have q2 : z2.s4 = wrap64 (s + x.d v + x.d u) := by rw [k2.s4, q1, d1, wr_add]
  have r1 : z1.ts = runT (upd x.st v 3) (x.N v) x.ts (x.d v) := k1.ts
  have r2 : z2.ts = runT (upd (upd x.st v 3) u 3) (x.N u) (runT (upd x.st v 3) (x.N v) x.ts (x.d v)) (x.d u) := by rw [k2.ts, s1, N1, d1, r1]
  exact ⟨by rw [k3.tr, t2, l2], by rw [k3.l3, l2], by rw [k3.s4, q2, d2, wr_add], by rw [k3.ts, s2, N2, d2, r2]⟩

/-- the law's word for what is touched. -/
def tch (x : FA) (v u w q : Nat) : Bool := isF x.st q && decide (q ≠ v) && (inR x v q || inR x u q || inR x w q)

theorem fold_qu (hgr : GN n x.d x.N) (ht : Two n x.d x.N x.st v u w iu iw) (hk : FoldK n x v u w iu iw nm mk) {s : Int} (hT : Taken2 x y s v u w) (hR : FoldR n x x' v u w nm mk y) (q : Nat) (hq : q < n) : x'.qu q = (x.qu q || tch x v u w q) := by
  have hts := congrArg TS.qu hR.ts
  have h1 : x'.qu = (tS ⟨upd y.qu n false, y.L 7, y.tu⟩ n).qu := hts
  have h2 : x'.qu q = y.qu q := by
    rw [h1]
    unfold tS
    rw [if_neg (show ¬ upd y.qu n false n = true by rw [upd_same]; simp)]
    show upd (upd y.qu n false) n true q = _
    rw [upd_other _ _ _ _ (by omega), upd_other _ _ _ _ (by omega)]
  have h3 : y.qu = (runT (upd (upd (upd x.st v 3) u 3) w 3) (x.N w) (runT (upd (upd x.st v 3) u 3) (x.N u) (runT (upd x.st v 3) (x.N v) x.ts (x.d v)) (x.d u)) (x.d w)).qu := congrArg TS.qu hT.ts
  rw [h2, h3, runT_qu, runT_qu, runT_qu]
  show (((x.qu q || _) || _) || _) = _
  have hvv : memN (x.d v) (x.N v) v = false := memN_false.2 (fun i hi => hgr.ne v ht.hv i hi)
  have huu : memN (x.d u) (x.N u) u = false := memN_false.2 (fun i hi => hgr.ne u hk.un i hi)
  have hww : memN (x.d w) (x.N w) w = false := memN_false.2 (fun i hi => hgr.ne w hk.wn i hi)
  have huw : memN (x.d u) (x.N u) w = false := memN_false.2 ht.unl
  have hwu : memN (x.d w) (x.N w) u = false := by rw [hgr.symM hk.wn hk.un]; exact huw
  unfold tch inR
  have h30 : (3 : Int) ≠ 0 := by omega
  by_cases e0 : q = v
  · subst e0
    have f1 : isF (upd x.st q 3) q = false := isF_false (by rw [upd_same]; exact h30)
    have f2 : isF (upd (upd x.st q 3) u 3) q = false := isF_false (by rw [upd_other _ _ _ _ (Ne.symm hk.uv), upd_same]; exact h30)
    have f3 : isF (upd (upd (upd x.st q 3) u 3) w 3) q = false := isF_false (by rw [upd_other _ _ _ _ (Ne.symm hk.wv), upd_other _ _ _ _ (Ne.symm hk.uv), upd_same]; exact h30)
    rw [f1, f2, f3]; simp
  · have f1 : isF (upd x.st v 3) q = isF x.st q := by unfold isF; rw [upd_other _ _ _ _ e0]
    have f2 : (memN (x.d u) (x.N u) q && isF (upd (upd x.st v 3) u 3) q) = (memN (x.d u) (x.N u) q && isF x.st q) := by
      by_cases e1 : q = u
      · subst e1; rw [huu]; rfl
      · unfold isF; rw [upd_other _ _ _ _ e1, upd_other _ _ _ _ e0]
    have f3 : (memN (x.d w) (x.N w) q && isF (upd (upd (upd x.st v 3) u 3) w 3) q) = (memN (x.d w) (x.N w) q && isF x.st q) := by
      by_cases e2 : q = w
      · subst e2; rw [hww]; rfl
      · by_cases e1 : q = u
        · subst e1; rw [hwu]; rfl
        · unfold isF; rw [upd_other _ _ _ _ e2, upd_other _ _ _ _ e1, upd_other _ _ _ _ e0]
    rw [f1, f2, f3]
    have : decide (q ≠ v) = true := by simpa using e0
    rw [this]
    cases isF x.st q <;> cases memN (x.d v) (x.N v) q <;> cases memN (x.d u) (x.N u) q <;> cases memN (x.d w) (x.N w) q <;> cases x.qu q <;> rfl

/-- the model's list of what is touched: seen marks, how many, which; against fold's own. -/
structure MS (n : Nat) (qu0 seen : Nat → Bool) (k : Nat) (t : Nat → Int) (s : TS) : Prop where
  qu : ∀ q, q < n → s.qu q = (qu0 q || seen q)
  nu : s.nu = k
  tu : ∀ i, i < k → s.tu i = t i

theorem MS.hit {qu0 seen : Nat → Bool} {k : Nat} {t : Nat → Int} {s : TS} (h : MS n qu0 seen k t s) {q : Nat} (hq : q < n) (h1 : qu0 q = false) (h2 : seen q = false) : MS n qu0 (upd seen q true) (k + 1) (upd t k (q : Int)) (tS s q) := by
  have hs := h.qu q hq
  rw [h1, h2] at hs
  unfold tS
  rw [if_neg (by rw [hs]; simp)]
  refine ⟨fun p hp => ?_, by show s.nu + 1 = _; rw [h.nu], fun i hi => ?_⟩
  · show upd s.qu q true p = _
    by_cases e : p = q
    · subst e; rw [upd_same, upd_same]; simp
    · rw [upd_other _ _ _ _ e, upd_other _ _ _ _ e]; exact h.qu p hp
  · show upd s.tu s.nu (q : Int) i = _
    rw [h.nu]
    by_cases e : i = k
    · subst e; rw [upd_same, upd_same]
    · rw [upd_other _ _ _ _ e, upd_other _ _ _ _ e]; exact h.tu i (by omega)

theorem MS.miss {qu0 seen : Nat → Bool} {k : Nat} {t : Nat → Int} {s : TS} (h : MS n qu0 seen k t s) {q : Nat} (hq : q < n) (h1 : qu0 q = true ∨ seen q = true) : MS n qu0 seen k t (tS s q) := by
  have hs := h.qu q hq
  have : s.qu q = true := by rw [hs]; rcases h1 with h1 | h1 <;> rw [h1] <;> simp
  unfold tS
  rw [if_pos this]
  exact h

/-- the row f (increasing, of m) parted at q: c of it lie below. -/
structure PartAt (f : Nat → Nat) (m c q : Nat) : Prop where
  le : c ≤ m
  lo : ∀ i, i < c → f i < q
  hi : ∀ i, c ≤ i → i < m → q ≤ f i

theorem PartAt.zero (f : Nat → Nat) (m : Nat) : PartAt f m 0 0 := ⟨Nat.zero_le _, fun i hi => absurd hi (Nat.not_lt_zero i), fun i _ _ => Nat.zero_le _⟩

theorem PartAt.mem {f : Nat → Nat} {m c q : Nat} (h : PartAt f m c q) (hinc : ∀ i j, i < j → j < m → f i < f j) : memN m f q = (decide (c < m) && decide (f c = q)) := by
  rw [Bool.eq_iff_iff, memN_iff]
  simp only [Bool.and_eq_true, decide_eq_true_eq]
  constructor
  · rintro ⟨i, hi, e⟩
    rcases Nat.lt_trichotomy i c with h1 | h1 | h1
    · have := h.lo i h1; omega
    · subst h1; exact ⟨hi, e⟩
    · have := hinc c i h1 hi
      have := h.hi c (Nat.le_refl _) (by omega)
      omega
  · rintro ⟨h1, h2⟩
    exact ⟨c, h1, h2⟩

theorem PartAt.take {f : Nat → Nat} {m c q : Nat} (h : PartAt f m c q) (hinc : ∀ i j, i < j → j < m → f i < f j) (hc : c < m) (e : f c = q) : PartAt f m (c + 1) (q + 1) := by
  refine ⟨hc, fun i hi => ?_, fun i hi hm => ?_⟩
  · by_cases e2 : i = c
    · subst e2; omega
    · have := h.lo i (by omega); omega
  · have := hinc c i (by omega) hm; omega

theorem PartAt.skip {f : Nat → Nat} {m c q : Nat} (h : PartAt f m c q) (hn : ¬ (c < m ∧ f c = q)) (hinc : ∀ i j, i < j → j < m → f i < f j) : PartAt f m c (q + 1) := by
  refine ⟨h.le, fun i hi => by have := h.lo i hi; omega, fun i hi hm => ?_⟩
  have h1 := h.hi i hi hm
  by_cases e : f i = q
  · by_cases e2 : i = c
    · subst e2; exact absurd ⟨hm, e⟩ hn
    · have := hinc c i (by omega) hm
      have := h.hi c (Nat.le_refl _) (by omega)
      omega
  · omega

theorem PartAt.done {f : Nat → Nat} {m c q : Nat} (h : PartAt f m c q) (hlt : ∀ i, i < m → f i < q) : c = m := by
  rcases Nat.lt_or_ge c m with h1 | h1
  · have := h.hi c (Nat.le_refl _) h1
    have := hlt c h1
    omega
  · have := h.le; omega

end
end Go.Proofs.Qxb6601557a
