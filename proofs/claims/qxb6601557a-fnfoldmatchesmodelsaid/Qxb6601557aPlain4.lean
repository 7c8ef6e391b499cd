/-
  What fold leaves is a well formed graph with right degrees, and two free threads fewer. No walk here. By an AI agent.
-/
import Derived.Test.Qxb6601557aPrem2
namespace Go.Proofs.Qxb6601557a
set_option linter.unusedVariables false
open Go.RowKit

theorem runD_at (st : Nat → Int) (f : Nat → Nat) (g : Nat → Int) (m : Nat) (hinj : ∀ i j, i < m → j < m → f i = f j → i = j) (q : Nat) : runD st f g m q = if memN m f q && isF st q then wrap64 (g q - 1) else g q := by
  induction m with
  | zero => simp [runD, memN]
  | succ m ih =>
    have ih := ih (fun i j hi hj => hinj i j (by omega) (by omega))
    have hms : memN (m + 1) f q = (memN m f q || decide (f m = q)) := by
      rw [Bool.eq_iff_iff]
      simp only [memN_iff, Bool.or_eq_true, decide_eq_true_eq]
      constructor
      · rintro ⟨j, hj, e⟩
        by_cases e2 : j = m
        · subst e2; exact .inr e
        · exact .inl ⟨j, by omega, e⟩
      · rintro (⟨j, hj, e⟩ | e)
        · exact ⟨j, by omega, e⟩
        · exact ⟨m, by omega, e⟩
    rw [hms]
    unfold runD
    by_cases e : f m = q
    · have hnot : memN m f q = false := by
        rw [memN_false]
        intro j hj ej
        have := hinj j m (by omega) (by omega) (by rw [ej, e])
        omega
      rw [hnot] at ih
      simp at ih
      subst e
      by_cases hz : st (f m) = 0
      · rw [if_pos hz, upd_same, ih, isF_true hz]; simp
      · rw [if_neg hz, ih, isF_false hz]; simp
    · have : decide (f m = q) = false := by simpa using e
      rw [this, Bool.or_false, ← ih]
      split
      · rw [upd_other _ _ _ _ (Ne.symm e)]
      · rfl

/-- one free place less. -/
theorem cnt_minus (st : Nat → Int) (f : Nat → Nat) (q : Nat) (hq : st q = 0) : ∀ (m : Nat), (∀ i j, i < m → j < m → f i = f j → i = j) → cnt m (fun i => isF (upd st q 3) (f i)) + (if memN m f q then 1 else 0) = cnt m (fun i => isF st (f i)) := by
  intro m
  induction m with
  | zero => intro _; simp [cnt, memN]
  | succ m ih =>
    intro hinj
    have ih := ih (fun i j hi hj => hinj i j (by omega) (by omega))
    have hms : memN (m + 1) f q = (memN m f q || decide (f m = q)) := by
      rw [Bool.eq_iff_iff]
      simp only [memN_iff, Bool.or_eq_true, decide_eq_true_eq]
      constructor
      · rintro ⟨j, hj, e⟩
        by_cases e2 : j = m
        · subst e2; exact .inr e
        · exact .inl ⟨j, by omega, e⟩
      · rintro (⟨j, hj, e⟩ | e)
        · exact ⟨j, by omega, e⟩
        · exact ⟨m, by omega, e⟩
    rw [cnt_succ, cnt_succ, hms, ← ih]
    by_cases e : f m = q
    · have hnot : memN m f q = false := by
        rw [memN_false]
        intro j hj ej
        have := hinj j m (by omega) (by omega) (by rw [ej, e])
        omega
      have h1 : isF (upd st q 3) (f m) = false := by rw [e]; exact isF_false (by rw [upd_same]; omega)
      have h2 : isF st (f m) = true := by rw [e]; exact isF_true hq
      rw [hnot, h1, h2]
      simp [e]
    · have h1 : isF (upd st q 3) (f m) = isF st (f m) := by unfold isF; rw [upd_other _ _ _ _ e]
      have h2 : decide (f m = q) = false := by simpa using e
      rw [h1, h2, Bool.or_false]
      omega

section
variable {n : Nat} {x x' y : FA} {v u w iu iw nm : Nat} {mk : Nat → Nat}

structure Taken (n : Nat) (x y : FA) (v u w : Nat) : Prop where
  st : y.st = upd (upd (upd x.st v 3) u 3) w 3
  dg : y.dg = runD (upd (upd (upd x.st v 3) u 3) w 3) (x.N w) (runD (upd (upd x.st v 3) u 3) (x.N u) (runD (upd x.st v 3) (x.N v) x.dg (x.d v)) (x.d u)) (x.d w)

theorem TK.taken {s : Int} (h : TK (three v u w) { x with s4 := s } 3 y) : Taken n x y v u w := by
  obtain ⟨z2, ⟨z1, ⟨z0, h0, k1⟩, k2⟩, k3⟩ := h
  have h0 : z0 = { x with s4 := s } := h0
  subst h0
  have e0 : three v u w 0 = v := rfl
  have e1 : three v u w 1 = u := rfl
  have e2 : three v u w 2 = w := rfl
  rw [e0] at k1
  rw [e1] at k2
  rw [e2] at k3
  have s1 : z1.st = upd x.st v 3 := k1.st
  have s2 : z2.st = upd (upd x.st v 3) u 3 := by rw [k2.st, s1]
  have s3 : y.st = upd (upd (upd x.st v 3) u 3) w 3 := by rw [k3.st, s2]
  have N1 : z1.N = x.N := k1.g.N
  have d1 : z1.d = x.d := k1.g.d
  have N2 : z2.N = x.N := k2.g.N.trans N1
  have d2 : z2.d = x.d := k2.g.d.trans d1
  refine ⟨s3, ?_⟩
  have g1 : z1.dg = runD (upd x.st v 3) (x.N v) x.dg (x.d v) := k1.dg
  have g2 : z2.dg = runD (upd (upd x.st v 3) u 3) (x.N u) (runD (upd x.st v 3) (x.N v) x.dg (x.d v)) (x.d u) := by rw [k2.dg, s1, N1, d1, g1]
  rw [k3.dg, s2, N2, d2, g2]

theorem GN.inj {d : Nat → Nat} {N : Nat → Nat → Nat} (h : GN n d N) {p : Nat} (hp : p < n) : ∀ i j, i < d p → j < d p → N p i = N p j → i = j := by
  intro i j hi hj e
  rcases Nat.lt_trichotomy i j with hl | hl | hl
  · have := h.inc p hp i j hl hj; omega
  · exact hl
  · have := h.inc p hp j i hl hi; omega

theorem GN.symM {d : Nat → Nat} {N : Nat → Nat → Nat} (h : GN n d N) {p q : Nat} (hp : p < n) (hq : q < n) : memN (d p) (N p) q = memN (d q) (N q) p := by
  have : ∀ {p q : Nat}, p < n → q < n → memN (d p) (N p) q = true → memN (d q) (N q) p = true := by
    intro p q hp hq hm
    obtain ⟨i, hi, e⟩ := memN_iff.1 hm
    subst e
    obtain ⟨j, hj, e⟩ := h.sym p hp i hi
    exact memN_iff.2 ⟨j, hj, e⟩
  rw [Bool.eq_iff_iff]
  exact ⟨this hp hq, this hq hp⟩

structure FoldK (n : Nat) (x : FA) (v u w iu iw nm : Nat) (mk : Nat → Nat) : Prop where
  un : u < n
  wn : w < n
  uv : u ≠ v
  wv : w ≠ v
  uw : u ≠ w
  mlt : ∀ i, i < nm → mk i < n
  mok : ∀ i, i < nm → mk i ≠ v ∧ mk i ≠ u ∧ mk i ≠ w ∧ x.st (mk i) = 0
  mem : ∀ p, p < n → p ≠ v → x.st p = 0 → memN nm mk p = (memN (x.d u) (x.N u) p || memN (x.d w) (x.N w) p)
  notv : ∀ p, p < n → p ≠ u → p ≠ w → x.st p = 0 → memN (x.d v) (x.N v) p = false

theorem foldK (hgr : GN n x.d x.N) (ht : Two n x.d x.N x.st v u w iu iw) (hM : Made n x.d x.N (fun q => decide (q ≠ v) && decide (x.st q = 0)) u w nm mk) : FoldK n x v u w iu iw nm mk := by
  have h1 := ht.lt
  have h2 := ht.hw
  have hv := ht.hv
  have hun : u < n := by rw [← ht.eu]; exact hgr.lt v hv iu (by omega)
  have hwn : w < n := by rw [← ht.ew]; exact hgr.lt v hv iw h2
  have huv : u ≠ v := by rw [← ht.eu]; exact hgr.ne v hv iu (by omega)
  have hwv : w ≠ v := by rw [← ht.ew]; exact hgr.ne v hv iw h2
  have huw : u ≠ w := by
    have := hgr.inc v hv iu iw h1 h2
    rw [ht.eu, ht.ew] at this
    omega
  have hmem : ∀ i, i < nm → ((∃ j, j < x.d u ∧ x.N u j = mk i) ∨ ∃ j, j < x.d w ∧ x.N w j = mk i) ∧ (mk i ≠ v ∧ x.st (mk i) = 0) := by
    intro i hi
    have h3 := (hM.mem (mk i)).1 ⟨i, hi, rfl⟩
    simpa using h3
  have hnw : ∀ j, j < x.d w → x.N w j ≠ u := by
    intro j hj e
    obtain ⟨k, hk, e2⟩ := hgr.sym w hwn j hj
    rw [e] at hk e2
    exact ht.unl k hk e2
  refine ⟨hun, hwn, huv, hwv, huw, fun i hi => ?_, fun i hi => ?_, fun p hp hpv hs => ?_, fun p hp hpu hpw hs => ?_⟩
  · rcases (hmem i hi).1 with ⟨j, hj, e⟩ | ⟨j, hj, e⟩
    · rw [← e]; exact hgr.lt u hun j hj
    · rw [← e]; exact hgr.lt w hwn j hj
  · obtain ⟨h3, h4, h5⟩ := hmem i hi
    refine ⟨h4, fun e => ?_, fun e => ?_, h5⟩
    · rcases h3 with ⟨j, hj, e2⟩ | ⟨j, hj, e2⟩
      · exact hgr.ne u hun j hj (by rw [e2, e])
      · exact hnw j hj (by rw [e2, e])
    · rcases h3 with ⟨j, hj, e2⟩ | ⟨j, hj, e2⟩
      · exact ht.unl j hj (by rw [e2, e])
      · exact hgr.ne w hwn j hj (by rw [e2, e])
  · rw [Bool.eq_iff_iff, memN_iff, Bool.or_eq_true, memN_iff, memN_iff]
    rw [hM.mem p]
    simp [hpv, hs]
  · rw [memN_false]
    intro j hj e
    rcases ht.all j hj (by rw [e]; exact hs) with h3 | h3
    · exact hpu (by rw [← e, h3, ht.eu])
    · exact hpw (by rw [← e, h3, ht.ew])

/-- the graph. -/
theorem fold_wf (hgr : GN n x.d x.N) (hk : FoldK n x v u w iu iw nm mk) (hM : ∀ i j, i < j → j < nm → mk i < mk j) (hR : FoldR n x x' v u w nm mk y) : WF (n + 1) x'.d (fun p i => (x'.N p i : Int)) := by
  -- an entry of a row
  have cs : ∀ p, p < n → ∀ i, i < x'.d p → (i < x.d p ∧ x'.N p i = x.N p i) ∨ (i = x.d p ∧ memN nm mk p = true ∧ x'.N p i = n) := by
    intro p hp i hi
    rw [hR.d p hp] at hi
    by_cases h1 : i < x.d p
    · exact .inl ⟨h1, hR.N p hp i h1⟩
    · cases hm : memN nm mk p with
      | false => rw [hm] at hi; simp at hi; omega
      | true =>
        rw [hm] at hi
        simp at hi
        have e : i = x.d p := by omega
        exact .inr ⟨e, rfl, by rw [e]; exact hR.Nm p hp hm⟩
  refine ⟨fun p hp => ⟨fun i hi => ?_, fun i j hij hj => ?_⟩, fun p hp i hi => ?_⟩
  · by_cases e : p = n
    · subst e
      rw [hR.dn] at hi
      show (0 : Int) ≤ (x'.N p i : Int) ∧ (x'.N p i : Int) < ((p + 1 : Nat) : Int) ∧ (x'.N p i : Int) ≠ (p : Int)
      rw [hR.Nn i hi]
      have := hk.mlt i hi
      omega
    · rcases cs p (by omega) i hi with ⟨h1, h2⟩ | ⟨h1, h2, h3⟩
      · have := hgr.lt p (by omega) i h1
        have := hgr.ne p (by omega) i h1
        show (0 : Int) ≤ (x'.N p i : Int) ∧ (x'.N p i : Int) < ((n + 1 : Nat) : Int) ∧ (x'.N p i : Int) ≠ (p : Int)
        rw [h2]; omega
      · show (0 : Int) ≤ (x'.N p i : Int) ∧ (x'.N p i : Int) < ((n + 1 : Nat) : Int) ∧ (x'.N p i : Int) ≠ (p : Int)
        rw [h3]; omega
  · show (x'.N p i : Int) < (x'.N p j : Int)
    by_cases e : p = n
    · subst e
      rw [hR.dn] at hj
      rw [hR.Nn i (by omega), hR.Nn j hj]
      have := hM i j hij hj
      omega
    · rcases cs p (by omega) j hj with ⟨h1, h2⟩ | ⟨h1, h2, h3⟩
      · rw [h2, hR.N p (by omega) i (by omega)]
        have := hgr.inc p (by omega) i j hij h1
        omega
      · rw [h3, hR.N p (by omega) i (by omega)]
        have := hgr.lt p (by omega) i (by omega)
        omega
  · show memB (x'.d (x'.N p i : Int).toNat) (fun k => (x'.N (x'.N p i : Int).toNat k : Int)) (p : Int) = true
    rw [Int.toNat_natCast]
    rw [memB_iff]
    by_cases e : p = n
    · subst e
      rw [hR.dn] at hi
      have hq := hk.mlt i hi
      have hm : memN nm mk (mk i) = true := memN_iff.2 ⟨i, hi, rfl⟩
      rw [hR.Nn i hi]
      exact ⟨x.d (mk i), by rw [hR.d _ hq, hm]; simp, by rw [hR.Nm _ hq hm]⟩
    · rcases cs p (by omega) i hi with ⟨h1, h2⟩ | ⟨h1, h2, h3⟩
      · rw [h2]
        obtain ⟨j, hj, e2⟩ := hgr.sym p (by omega) i h1
        have hq := hgr.lt p (by omega) i h1
        exact ⟨j, by rw [hR.d _ hq]; omega, by rw [hR.N _ hq j hj, e2]⟩
      · rw [h3]
        obtain ⟨j, hj, e2⟩ := memN_iff.1 h2
        exact ⟨j, by rw [hR.dn]; exact hj, by rw [hR.Nn j hj, e2]⟩

theorem fold_free (hk : FoldK n x v u w iu iw nm mk) (hv : v < n) (hsv : x.st v = 0) (hsu : x.st u = 0) (hsw : x.st w = 0) (hy : y.st = upd (upd (upd x.st v 3) u 3) w 3) : cnt (n + 1) (isF (upd y.st n 0)) + 2 = cnt n (isF x.st) := by
  have hid : ∀ m i j : Nat, i < m → j < m → (fun k : Nat => k) i = (fun k : Nat => k) j → i = j := fun m i j _ _ e => e
  have hm : ∀ q, q < n → memN n (fun k => k) q = true := fun q hq => memN_iff.2 ⟨q, hq, rfl⟩
  have h1 := cnt_minus x.st (fun k => k) v hsv n (hid n)
  have h2 := cnt_minus (upd x.st v 3) (fun k => k) u (by rw [upd_other _ _ _ _ hk.uv]; exact hsu) n (hid n)
  have h3 := cnt_minus (upd (upd x.st v 3) u 3) (fun k => k) w (by rw [upd_other _ _ _ _ (Ne.symm hk.uw), upd_other _ _ _ _ hk.wv]; exact hsw) n (hid n)
  rw [hm v hv] at h1
  rw [hm u hk.un] at h2
  rw [hm w hk.wn] at h3
  simp at h1 h2 h3
  have h4 : cnt n (isF (upd y.st n 0)) = cnt n (isF (upd (upd (upd x.st v 3) u 3) w 3)) := by
    rw [hy]
    refine cnt_congr (fun i hi => ?_)
    unfold isF
    rw [upd_other _ _ _ _ (by omega)]
  rw [cnt_succ, isF_true (upd_same _ _ _), h4]
  simp
  have e1 : cnt n (fun i => isF x.st i) = cnt n (isF x.st) := rfl
  have e2 : cnt n (fun i => isF (upd x.st v 3) i) = cnt n (isF (upd x.st v 3)) := rfl
  have e3 : cnt n (fun i => isF (upd (upd x.st v 3) u 3) i) = cnt n (isF (upd (upd x.st v 3) u 3)) := rfl
  have e4 : cnt n (fun i => isF (upd (upd (upd x.st v 3) u 3) w 3) i) = cnt n (isF (upd (upd (upd x.st v 3) u 3) w 3)) := rfl
  omega

theorem wrap64_small (z : Int) (h : -1000000 ≤ z ∧ z ≤ 1000000) : wrap64 z = z := by unfold wrap64; omega

theorem fold_deg (hgr : GN n x.d x.N) (hk : FoldK n x v u w iu iw nm mk) (hv : v < n) (hsv : x.st v = 0) (hsu : x.st u = 0) (hsw : x.st w = 0) (hT : Taken n x y v u w) (hR : FoldR n x x' v u w nm mk y) (hok : DegOk n x.d x.N x.st x.dg) : DegOk (n + 1) x'.d x'.N x'.st x'.dg := by
  intro p hp hs
  rw [hR.st] at hs
  by_cases e : p = n
  · subst e
    rw [hR.dn, hR.dgn]
    have : cnt nm (fun i => isF x'.st (x'.N p i)) = nm := cnt_all.2 (fun i hi => by
      rw [hR.Nn i hi]
      obtain ⟨h1, h2, h3, h4⟩ := hk.mok i hi
      have h5 := hk.mlt i hi
      apply isF_true
      rw [hR.st, upd_other _ _ _ _ (by omega), hT.st, upd_other _ _ _ _ h3, upd_other _ _ _ _ h2, upd_other _ _ _ _ h1, h4])
    rw [this]
  · have hpn : p < n := by omega
    rw [upd_other _ _ _ _ e, hT.st] at hs
    have hpw : p ≠ w := fun e => by rw [e, upd_same] at hs; omega
    rw [upd_other _ _ _ _ hpw] at hs
    have hpu : p ≠ u := fun e => by rw [e, upd_same] at hs; omega
    rw [upd_other _ _ _ _ hpu] at hs
    have hpv : p ≠ v := fun e => by rw [e, upd_same] at hs; omega
    rw [upd_other _ _ _ _ hpv] at hs
    -- the old row's free entries
    have hold := hok p hpn hs
    have hinj := hgr.inj hpn
    have h1 := cnt_minus x.st (x.N p) v hsv (x.d p) hinj
    have h2 := cnt_minus (upd x.st v 3) (x.N p) u (by rw [upd_other _ _ _ _ hk.uv]; exact hsu) (x.d p) hinj
    have h3 := cnt_minus (upd (upd x.st v 3) u 3) (x.N p) w (by rw [upd_other _ _ _ _ (Ne.symm hk.uw), upd_other _ _ _ _ hk.wv]; exact hsw) (x.d p) hinj
    rw [hgr.symM hpn hv, hk.notv p hpn hpu hpw hs] at h1
    rw [hgr.symM hpn hk.un] at h2
    rw [hgr.symM hpn hk.wn] at h3
    have hcle := cnt_le (x.d p) (fun i => isF x.st (x.N p i))
    have hdp := hgr.dle p hpn
    -- the new row
    have hnew : cnt (x'.d p) (fun i => isF x'.st (x'.N p i)) = cnt (x.d p) (fun i => isF (upd (upd (upd x.st v 3) u 3) w 3) (x.N p i)) + (if memN nm mk p then 1 else 0) := by
      have hbase : cnt (x.d p) (fun i => isF x'.st (x'.N p i)) = cnt (x.d p) (fun i => isF (upd (upd (upd x.st v 3) u 3) w 3) (x.N p i)) := by
        refine cnt_congr (fun i hi => ?_)
        rw [hR.N p hpn i hi]
        unfold isF
        have := hgr.lt p hpn i hi
        rw [hR.st, upd_other _ _ _ _ (by omega), hT.st]
      rw [hR.d p hpn]
      cases hm : memN nm mk p with
      | false => simpa using hbase
      | true =>
        simp only [if_true]
        rw [cnt_succ, hbase, hR.Nm p hpn hm, isF_true (by rw [hR.st, upd_same])]
        rfl
    rw [hnew]
    -- the degree
    have hd3 : y.dg p = if memN (x.d w) (x.N w) p then wrap64 ((if memN (x.d u) (x.N u) p then wrap64 (x.dg p - 1) else x.dg p) - 1) else (if memN (x.d u) (x.N u) p then wrap64 (x.dg p - 1) else x.dg p) := by
      rw [hT.dg, runD_at _ _ _ _ (hgr.inj hk.wn), runD_at _ _ _ _ (hgr.inj hk.un), runD_at _ _ _ _ (hgr.inj hv), hk.notv p hpn hpu hpw hs]
      have f1 : isF (upd (upd (upd x.st v 3) u 3) w 3) p = true := isF_true (by rw [upd_other _ _ _ _ hpw, upd_other _ _ _ _ hpu, upd_other _ _ _ _ hpv]; exact hs)
      have f2 : isF (upd (upd x.st v 3) u 3) p = true := isF_true (by rw [upd_other _ _ _ _ hpu, upd_other _ _ _ _ hpv]; exact hs)
      rw [f1, f2]
      simp
    rw [hR.dg p hpn, hd3, hk.mem p hpn hpv hs, ← hold]
    clear hnew hd3 hok hold
    generalize cnt (x.d p) (fun i => isF x.st (x.N p i)) = C at *
    generalize cnt (x.d p) (fun i => isF (upd x.st v 3) (x.N p i)) = C1 at *
    generalize cnt (x.d p) (fun i => isF (upd (upd x.st v 3) u 3) (x.N p i)) = C2 at *
    generalize cnt (x.d p) (fun i => isF (upd (upd (upd x.st v 3) u 3) w 3) (x.N p i)) = C3 at *
    have w1 : wrap64 ((C : Int) - 1) = (C : Int) - 1 := wrap64_small _ (by omega)
    have w2 : wrap64 ((C : Int) - 1 + 1) = (C : Int) - 1 + 1 := wrap64_small _ (by omega)
    have w3 : wrap64 ((C : Int) - 1 - 1) = (C : Int) - 1 - 1 := wrap64_small _ (by omega)
    have w4 : wrap64 ((C : Int) - 1 - 1 + 1) = (C : Int) - 1 - 1 + 1 := wrap64_small _ (by omega)
    cases hU : memN (x.d u) (x.N u) p <;> cases hW : memN (x.d w) (x.N w) p <;> rw [hU] at h2 <;> rw [hW] at h3 <;> simp only [Bool.or_true, Bool.or_false, if_true, if_false, Bool.false_eq_true, w1, w2, w3, w4] at h1 h2 h3 ⊢ <;> omega

end
end Go.Proofs.Qxb6601557a
