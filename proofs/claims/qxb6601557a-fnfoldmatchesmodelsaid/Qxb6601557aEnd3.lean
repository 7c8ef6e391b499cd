/-
  FnFoldMatchesModel: what is read behind ZZFold, and what it holds. By an AI agent.
-/
import Derived.Test.Qxb6601557aPlain3
namespace Go.Proofs.Qxb6601557a
set_option linter.unusedVariables false
open Go.RowKit

theorem Src3.ext {w w' : World} {n nF : Nat} {X : FA} {F0 : Nat → Nat → Int} {b : Nat → Option Addr} (h : Src3 w n nF X F0 b) (hx : Ext (fun _ => False) w w') : Src3 w' n nF X F0 b :=
  ⟨h.adj.ext hx (fun _ _ h => h), fun j hj h0 => (h.tab j hj h0).ext hx (fun _ _ h => h), h.fo.ext hx (fun _ _ h => h), h.l0, h.hn, h.hd, h.hL, h.hF⟩

/-- the readings. -/
structure E3 (w : World) (n nF : Nat) (X : FA) (F0 : Nat → Nat → Int) (b : Nat → Option Addr) (x' : FA) (aO : Option Addr) (F : Nat → Nat → Int) : Prop where
  src : Src3 w n nF X F0 b
  adj : RdAdj (fun _ => True) w (x'.a 0) (n + 1) x'.d (fun p i => (x'.N p i : Int))
  tab : ∀ j, IsTab j → j ≠ 0 → Rd (fun _ => True) w (x'.a j) (x'.L j) (x'.f j)
  fo : Rd4 (fun _ => True) w aO (nF + 1) F

theorem E3.ext {w w' : World} {n nF : Nat} {X : FA} {F0 : Nat → Nat → Int} {b : Nat → Option Addr} {x' : FA} {aO : Option Addr} {F : Nat → Nat → Int} (h : E3 w n nF X F0 b x' aO F) (hx : Ext (fun _ => False) w w') : E3 w' n nF X F0 b x' aO F :=
  ⟨h.src.ext hx, h.adj.ext hx (fun _ _ h => h), fun j hj h0 => (h.tab j hj h0).ext hx (fun _ _ h => h), h.fo.ext hx (fun _ _ h => h)⟩

/-- what they hold, in the law's words. -/
structure P3 (n nF : Nat) (X : FA) (F0 : Nat → Nat → Int) (v u w iu iw : Nat) (x' : FA) (nm : Nat) (mk : Nat → Nat) (F : Nat → Nat → Int) : Prop where
  gr : GN n X.d X.N
  two : Two n X.d X.N X.st v u w iu iw
  un : u < n
  wn : w < n
  nmn : nm ≤ n
  minc : ∀ i j, i < j → j < nm → mk i < mk j
  mlt : ∀ i, i < nm → mk i < n
  mmem : ∀ q, memN nm mk q = ((inR X u q || inR X w q) && (decide (q ≠ v) && isF X.st q))
  l0 : x'.L 0 = n + 1
  l1 : x'.L 1 = n + 1
  l2 : x'.L 2 = n + 1
  l8 : x'.L 8 = n + 1
  dd : ∀ p, p < n → x'.d p = X.d p + (if memN nm mk p then 1 else 0)
  dn : x'.d n = nm
  N : ∀ p, p < n → ∀ i, i < X.d p → x'.N p i = X.N p i
  Nm : ∀ p, p < n → memN nm mk p = true → x'.N p (X.d p) = n
  Nn : ∀ i, i < nm → x'.N n i = mk i
  st : ∀ q, q < n → x'.st q = if q = v ∨ q = u ∨ q = w then 3 else X.st q
  stn : x'.st n = 0
  dg : ∀ q, q < n → x'.dg q = eD X v u w nm mk q
  dgn : x'.dg n = nm
  l3 : x'.L 3 = X.L 3 + 4
  tr : x'.tr = upd (upd (upd (upd X.tr (X.L 3) (v : Int)) (X.L 3 + 1) (u : Int)) (X.L 3 + 2) (w : Int)) (X.L 3 + 3) (-1 - (nF : Int))
  s4 : x'.s4 = wrap64 (X.s4 + X.d v + 2 * X.d u + 2 * X.d w)
  F0 : ∀ j, j < nF → F j = F0 j
  Fn : F nF = four n v u w
  l9 : x'.L 9 = X.L 9 + 1
  ma : x'.ma = upd X.ma (X.L 9) (-1)
  l10 : x'.L 10 = X.L 10 + 1
  sd : x'.sd = upd X.sd (X.L 10) 0
  l11 : x'.L 11 = X.L 11 + 1
  sc : x'.sc = upd X.sc (X.L 11) 0
  qu : ∀ q, q < n → x'.qu q = (X.qu q || tch X v u w q)
  qun : x'.qu n = true
  ts : ∃ s : TS, s = runT (upd (upd (upd X.st v 3) u 3) w 3) (X.N w) (runT (upd (upd X.st v 3) u 3) (X.N u) (runT (upd X.st v 3) (X.N v) X.ts (X.d v)) (X.d u)) (X.d w) ∧ x'.L 7 = s.nu + 1 ∧ ∀ i, i < s.nu + 1 → x'.tu i = upd s.tu s.nu (n : Int) i

theorem Out3.p3 {W w' : World} {n nF : Nat} {X : FA} {F0 : Nat → Nat → Int} {v u w2 iu iw : Nat} {tv : Nat → Value} {tag' : Nat → Nat} {x0 x' y : FA} {nm : Nat} {mk : Nat → Nat} {aO : Option Addr} {cO bs : Nat} {F : Nat → Nat → Int} (h : Out3 W w' n nF X F0 v u w2 tv tag' x0 x' y nm mk aO cO bs F) (hgr : GN n X.d X.N) (ht : Two n X.d X.N X.st v u w2 iu iw) :
    P3 n nF X F0 v u w2 iu iw x' nm mk F := by
  have hgr0 : GN n x0.d x0.N := by rw [h.d, h.N]; exact hgr
  have ht0 : Two n x0.d x0.N x0.st v u w2 iu iw := by rw [h.d, h.N, h.st]; exact ht
  have hM0 : Made n x0.d x0.N (fun q => decide (q ≠ v) && decide (x0.st q = 0)) u w2 nm mk := by rw [h.d, h.N, h.st]; exact h.M
  have hk := foldK hgr0 ht0 hM0
  have hT : Taken n x0 y v u w2 := TK.taken h.R.tk
  have hT2 := TK.taken2 h.R.tk
  have hnm : nm ≤ n := by
    have hge : ∀ i, i < nm → i ≤ mk i := by
      intro i
      induction i with
      | zero => intro _; exact Nat.zero_le _
      | succ i ih => intro hi; have := ih (by omega); have := hM0.inc i (i + 1) (by omega) hi; omega
    rcases Nat.eq_zero_or_pos nm with h0 | h0
    · omega
    · have := hge (nm - 1) (by omega); have := hk.mlt (nm - 1) (by omega); omega
  have hnv : ¬ upd y.qu n false n = true := by rw [upd_same]; simp
  have hts : x'.ts = ⟨upd (upd y.qu n false) n true, y.L 7 + 1, upd y.tu (y.L 7) (n : Int)⟩ := by
    rw [h.R.ts]; unfold tS; rw [if_neg hnv]
  refine ⟨hgr, ht, hk.un, hk.wn, hnm, hM0.inc, hk.mlt, fun q => ?_, h.R.l0, h.R.l1, h.R.l2, h.R.l8, fun p hp => by rw [h.R.d p hp, h.d], h.R.dn, fun p hp i hi => ?_, fun p hp hm => ?_, h.R.Nn, fun q hq => ?_, ?_, fun q hq => ?_, h.R.dgn, ?_, ?_, ?_, fun j hj => ?_, ?_, ?_, ?_, ?_, ?_, ?_, ?_, fun q hq => ?_, ?_, ?_⟩
  · rw [Bool.eq_iff_iff, memN_iff]
    have h1 := h.M.mem q
    rw [h1]
    unfold inR okM isF
    simp only [Bool.and_eq_true, Bool.or_eq_true, memN_iff]
  · rw [h.R.N p hp i (by rw [h.d]; exact hi), h.N]
  · have := h.R.Nm p hp hm; rwa [h.d] at this
  · rw [fold_st hT h.R q hq, h.st]
  · rw [h.R.st, upd_same]
  · rw [fold_dg hgr0 ht0 hk hT h.R q hq]
    unfold eD inR
    rw [h.dg, h.st, h.d, h.N]
  · rw [h.R.l3, hT2.l3, h.L 3 (by omega)]
  · rw [h.R.tr, hT2.tr, hT2.l3, h.L 3 (by omega), h.tr, h.l6]
  · rw [h.R.s4, hT2.s4, h.d, h.s4]
    have e1 : wrap64 (X.s4 + ((X.d u + X.d w2 : Nat) : Int)) + (X.d v : Int) + (X.d u : Int) + (X.d w2 : Int) = wrap64 (X.s4 + ((X.d u + X.d w2 : Nat) : Int)) + ((X.d v : Int) + (X.d u : Int) + (X.d w2 : Int)) := by omega
    rw [e1, wr_add]
    congr 1
    omega
  · rw [h.FF j (by rw [h.R.l6, h.l6]; omega), h.R.F, h.l6, upd_other _ _ _ _ (by omega), h.F0 j hj]
  · rw [h.FF nF (by rw [h.R.l6, h.l6]; omega), h.R.F, h.l6, upd_same]
  · rw [h.R.l9, h.L 9 (by omega)]
  · rw [h.R.ma, h.ma, h.L 9 (by omega)]
  · rw [h.R.l10, h.L 10 (by omega)]
  · rw [h.R.sd, h.sd, h.L 10 (by omega)]
  · rw [h.R.l11, h.L 11 (by omega)]
  · rw [h.R.sc, h.sc, h.L 11 (by omega)]
  · rw [fold_qu hgr0 ht0 hk hT2 h.R q hq]
    unfold tch inR
    rw [h.qu, h.st, h.d, h.N]
  · have := congrArg (fun t : TS => t.qu n) hts
    have e : x'.qu n = upd (upd y.qu n false) n true n := this
    rw [e, upd_same]
  · have hys : y.ts = runT (upd (upd (upd X.st v 3) u 3) w2 3) (X.N w2) (runT (upd (upd X.st v 3) u 3) (X.N u) (runT (upd X.st v 3) (X.N v) X.ts (X.d v)) (X.d u)) (X.d w2) := by
      rw [hT2.ts, h.st, h.d, h.N]
      have e : x0.ts = X.ts := by unfold FA.ts; rw [h.qu, h.tu, h.L 7 (by omega)]
      rw [e]
    refine ⟨y.ts, hys, ?_, fun i hi => ?_⟩
    · have := congrArg TS.nu hts
      exact this
    · have := congrArg (fun t : TS => t.tu i) hts
      exact this

theorem Out3.e3 {W w' : World} {n nF : Nat} {X : FA} {F0 : Nat → Nat → Int} {v u w2 iu iw : Nat} {tv : Nat → Value} {tag' : Nat → Nat} {x0 x' y : FA} {nm : Nat} {mk : Nat → Nat} {aO : Option Addr} {cO bs : Nat} {F : Nat → Nat → Int} {b : Nat → Option Addr} (h : Out3 W w' n nF X F0 v u w2 tv tag' x0 x' y nm mk aO cO bs F) (hp : P3 n nF X F0 v u w2 iu iw x' nm mk F) (hs : Src3 W n nF X F0 b) :
    E3 w' n nF X F0 b x' aO F := by
  refine ⟨hs.ext h.ext, fun p hp' => ?_, fun j hj h0 => (h.fm.tab j hj).rd.mono (fun _ _ => trivial), ?_⟩
  · obtain ⟨g, eg, hc, hr⟩ := h.fm.row p (by rw [hp.l0]; exact hp')
    have hdle : x'.d p ≤ 9223372036854775807 := by
      have hn := hs.hn
      have hnm := hp.nmn
      by_cases e : p = n
      · subst e; rw [hp.dn]; omega
      · rw [hp.dd p (by omega)]; have := hs.hd p (by omega); split <;> omega
    exact ⟨g, 0, x'.R p, x'.rc p, eg, trivial, by rw [Nat.zero_add]; exact hc, hdle, hr.mono (fun _ _ => trivial)⟩
  · have h1 := h.oo.rd4
    rw [h.R.l6, h.l6] at h1
    exact h1.mono (fun _ _ => trivial)
end Go.Proofs.Qxb6601557a
