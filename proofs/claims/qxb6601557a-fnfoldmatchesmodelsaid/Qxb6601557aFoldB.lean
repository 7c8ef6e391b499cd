/-
  fold: the last loop's plain state, and what stands behind it. By an AI agent.
-/
import Derived.Test.Qxb6601557aFoldA
import Derived.Test.Qxb6601557aGoodC
namespace Go.Proofs.Qxb6601557a
set_option linter.unusedVariables false
open Go.RowKit

/-- behind the seven appends. -/
structure Z7 (n : Nat) (x y z : FA) (nm cM : Nat) (mk : Nat → Nat) (aM : Option Addr) : Prop where
  R : z.R n = aM
  d : z.d = upd x.d n nm
  N : z.N = upd x.N n mk
  rc : z.rc = upd x.rc n cM
  st : z.st = upd y.st n 0
  dg : z.dg = upd y.dg n (nm : Int)
  tr : z.tr = y.tr
  tu : z.tu = y.tu
  qu : z.qu = upd y.qu n false
  ma : z.ma = upd x.ma (x.L 9) (-1)
  sd : z.sd = upd x.sd (x.L 10) 0
  sc : z.sc = upd x.sc (x.L 11) 0
  F : z.F = x.F
  s4 : z.s4 = y.s4
  l0 : z.L 0 = n + 1
  l1 : z.L 1 = n + 1
  l2 : z.L 2 = n + 1
  l3 : z.L 3 = y.L 3
  l6 : z.L 6 = x.L 6
  l7 : z.L 7 = y.L 7
  l8 : z.L 8 = n + 1
  l9 : z.L 9 = x.L 9 + 1
  l10 : z.L 10 = x.L 10 + 1
  l11 : z.L 11 = x.L 11 + 1

/-- k of the made row have been given the made thread. -/
structure I4 (n : Nat) (x z : FA) (nm : Nat) (mk : Nat → Nat) (aM : Option Addr) (k : Nat) (zz : FA) : Prop where
  R : zz.R n = aM
  d : ∀ p, p < n → zz.d p = x.d p + (if memN k mk p then 1 else 0)
  dn : zz.d n = nm
  N : ∀ p, p < n → ∀ i, i < x.d p → zz.N p i = x.N p i
  Nm : ∀ p, p < n → memN k mk p = true → zz.N p (x.d p) = n
  Nn : zz.N n = mk
  rc : ∀ p, p < n → memN k mk p = false → zz.rc p = x.d p
  dg : ∀ p, p < n → zz.dg p = if memN k mk p then wrap64 (z.dg p + 1) else z.dg p
  dgn : zz.dg n = z.dg n
  st : zz.st = z.st
  tr : zz.tr = z.tr
  tu : zz.tu = z.tu
  qu : zz.qu = z.qu
  ma : zz.ma = z.ma
  sd : zz.sd = z.sd
  sc : zz.sc = z.sc
  F : zz.F = z.F
  s4 : zz.s4 = z.s4
  L : zz.L = z.L

theorem I4.zero {n : Nat} {x y z : FA} {nm cM : Nat} {mk : Nat → Nat} {aM : Option Addr} (h : Z7 n x y z nm cM mk aM) (hf : ∀ p, p < n → x.rc p = x.d p) : I4 n x z nm mk aM 0 z := by
  have hm : ∀ p, memN 0 mk p = false := fun p => by simp [memN]
  refine ⟨h.R, fun p hp => ?_, ?_, fun p hp i hi => ?_, fun p hp h1 => ?_, ?_, fun p hp _ => ?_, fun p hp => ?_, rfl, rfl, rfl, rfl, rfl, rfl, rfl, rfl, rfl, rfl, rfl⟩
  · rw [h.d, upd_other _ _ _ _ (by omega), hm]; simp
  · rw [h.d, upd_same]
  · rw [h.N, upd_other _ _ _ _ (by omega)]
  · rw [hm] at h1; cases h1
  · rw [h.N, upd_same]
  · rw [h.rc, upd_other _ _ _ _ (by omega), hf p hp]
  · rw [hm]; rfl

theorem memN_succ {k : Nat} {mk : Nat → Nat} {p : Nat} : memN (k + 1) mk p = (memN k mk p || decide (mk k = p)) := by
  rw [Bool.eq_iff_iff]
  simp only [memN_iff, Bool.or_eq_true, decide_eq_true_eq]
  constructor
  · rintro ⟨j, hj, e⟩
    by_cases e2 : j = k
    · subst e2; exact .inr e
    · exact .inl ⟨j, by omega, e⟩
  · rintro (⟨j, hj, e⟩ | e)
    · exact ⟨j, by omega, e⟩
    · exact ⟨k, by omega, e⟩

theorem I4.new {n : Nat} {nm : Nat} {mk : Nat → Nat} {k : Nat} (hinc : ∀ i j, i < j → j < nm → mk i < mk j) (hk : k < nm) : memN k mk (mk k) = false := by
  rw [memN_false]
  intro j hj e
  have := hinc j k hj hk
  omega

def FA.r4 (zz : FA) (q : Nat) (a' : Option Addr) (c' m : Nat) : FA := { zz with R := upd zz.R q a', d := upd zz.d q (zz.d q + 1), rc := upd zz.rc q c', N := upd zz.N q (upd (zz.N q) (zz.d q) m) }

theorem I4.step {n : Nat} {x z zz : FA} {nm : Nat} {mk : Nat → Nat} {aM : Option Addr} {k : Nat} (h : I4 n x z nm mk aM k zz) (hinc : ∀ i j, i < j → j < nm → mk i < mk j) (hk : k < nm) (hq : mk k < n) (a' : Option Addr) (c' : Nat) :
    I4 n x z nm mk aM (k + 1) { zz.r4 (mk k) a' c' n with dg := upd zz.dg (mk k) (wrap64 (zz.dg (mk k) + 1)) } := by
  have hnew := I4.new (n := n) hinc hk
  have hd := h.d (mk k) hq
  rw [hnew] at hd
  simp at hd
  refine ⟨?_, fun p hp => ?_, ?_, fun p hp i hi => ?_, fun p hp hm => ?_, ?_, fun p hp hm => ?_, fun p hp => ?_, ?_, h.st, h.tr, h.tu, h.qu, h.ma, h.sd, h.sc, h.F, h.s4, h.L⟩
  · show upd zz.R (mk k) a' n = aM; rw [upd_other _ _ _ _ (by omega)]; exact h.R
  · show upd zz.d (mk k) (zz.d (mk k) + 1) p = _
    rw [memN_succ]
    by_cases e : p = mk k
    · subst e; rw [upd_same, hnew, hd]; simp
    · rw [upd_other _ _ _ _ e, h.d p hp]
      have : decide (mk k = p) = false := by simp; omega
      rw [this, Bool.or_false]
  · show upd zz.d (mk k) _ n = nm; rw [upd_other _ _ _ _ (by omega)]; exact h.dn
  · show upd zz.N (mk k) (upd (zz.N (mk k)) (zz.d (mk k)) n) p i = _
    by_cases e : p = mk k
    · subst e; rw [upd_same, hd, upd_other _ _ _ _ (by omega)]; exact h.N _ hp i hi
    · rw [upd_other _ _ _ _ e]; exact h.N p hp i hi
  · show upd zz.N (mk k) (upd (zz.N (mk k)) (zz.d (mk k)) n) p (x.d p) = n
    by_cases e : p = mk k
    · subst e; rw [upd_same, hd, upd_same]
    · rw [upd_other _ _ _ _ e]
      rw [memN_succ] at hm
      have : decide (mk k = p) = false := by simp; omega
      rw [this, Bool.or_false] at hm
      exact h.Nm p hp hm
  · show upd zz.N (mk k) _ n = mk; rw [upd_other _ _ _ _ (by omega)]; exact h.Nn
  · show upd zz.rc (mk k) c' p = x.d p
    rw [memN_succ] at hm
    have h1 : memN k mk p = false := by cases h2 : memN k mk p <;> simp_all
    have h2 : mk k ≠ p := by intro e; rw [e] at hm; simp at hm
    rw [upd_other _ _ _ _ (Ne.symm h2)]
    exact h.rc p hp h1
  · show upd zz.dg (mk k) (wrap64 (zz.dg (mk k) + 1)) p = _
    rw [memN_succ]
    by_cases e : p = mk k
    · subst e
      have h1 := h.dg (mk k) hq
      rw [hnew] at h1
      simp at h1
      rw [upd_same, h1]; simp
    · rw [upd_other _ _ _ _ e, h.dg p hp]
      have : decide (mk k = p) = false := by simp; omega
      rw [this, Bool.or_false]
  · show upd zz.dg (mk k) _ n = _; rw [upd_other _ _ _ _ (by omega)]; exact h.dgn

/-- the whole. -/
theorem foldR_of {n : Nat} {x y z zz x' : FA} {nm cM v u w : Nat} {mk : Nat → Nat} {aM a' b' : Option Addr} {c' e' : Nat} (hz : Z7 n x y z nm cM mk aM) (h : I4 n x z nm mk aM nm zz)
    (htk : TK (three v u w) { x with s4 := wrap64 (x.s4 + (x.d u + x.d w : Nat)) } 3 y) (ht : TouchR ((zz.ap 3 a' c' (-1 - (x.L 6 : Int)) false).apF b' e' (four n v u w)) x' n) : FoldR n x x' v u w nm mk y := by
  have hl : ∀ j, j ≠ 3 → j ≠ 6 → j ≠ 7 → x'.L j = z.L j := by
    intro j h3 h6 h7
    rw [ht.g.L j h3 h7]
    show upd (upd zz.L 3 (zz.L 3 + 1)) 6 (upd zz.L 3 (zz.L 3 + 1) 6 + 1) j = _
    rw [upd_other _ _ _ _ h6, upd_other _ _ _ _ h3, h.L]
  have hst : x'.st = zz.st := ht.st.trans rfl
  have hdg : x'.dg = zz.dg := ht.dg.trans rfl
  have htr : x'.tr = upd zz.tr (zz.L 3) (-1 - (x.L 6 : Int)) := ht.tr.trans rfl
  have hd : x'.d = zz.d := ht.g.d.trans rfl
  have hN : x'.N = zz.N := ht.g.N.trans rfl
  refine ⟨htk, ?_, ?_, ?_, ?_, fun p hp => by rw [hd]; exact h.d p hp, by rw [hd]; exact h.dn, fun p hp i hi => by rw [hN]; exact h.N p hp i hi, fun p hp hm => by rw [hN]; exact h.Nm p hp hm, fun i hi => by rw [hN, h.Nn], by rw [hst, h.st, hz.st], fun p hp => ?_, ?_, ?_, ?_, ?_, ?_, ?_, ?_, ?_, ?_, ?_, ?_, ?_, ?_⟩
  · rw [hl 0 (by omega) (by omega) (by omega), hz.l0]
  · rw [hl 1 (by omega) (by omega) (by omega), hz.l1]
  · rw [hl 2 (by omega) (by omega) (by omega), hz.l2]
  · rw [hl 8 (by omega) (by omega) (by omega), hz.l8]
  · rw [hdg, h.dg p hp, hz.dg, upd_other _ _ _ _ (by omega)]
  · rw [hdg, h.dgn, hz.dg, upd_same]
  · rw [ht.l3]
    show upd (upd zz.L 3 (zz.L 3 + 1)) 6 (upd zz.L 3 (zz.L 3 + 1) 6 + 1) 3 = _
    rw [upd_other _ _ _ _ (by omega), upd_same, h.L, hz.l3]
  · rw [htr, h.tr, h.L, hz.tr, hz.l3]
  · rw [ht.ts]
    have e : ((zz.ap 3 a' c' (-1 - (x.L 6 : Int)) false).apF b' e' (four n v u w)).ts = ⟨upd y.qu n false, y.L 7, y.tu⟩ := by
      show (⟨zz.qu, upd (upd zz.L 3 (zz.L 3 + 1)) 6 (upd zz.L 3 (zz.L 3 + 1) 6 + 1) 7, zz.tu⟩ : TS) = _
      rw [upd_other _ _ _ _ (by omega), upd_other _ _ _ _ (by omega), h.qu, h.L, h.tu, hz.qu, hz.l7, hz.tu]
    rw [e]
  · rw [hl 9 (by omega) (by omega) (by omega), hz.l9]
  · rw [ht.g.ma]; show zz.ma = _; rw [h.ma, hz.ma]
  · rw [hl 10 (by omega) (by omega) (by omega), hz.l10]
  · rw [ht.g.sd]; show zz.sd = _; rw [h.sd, hz.sd]
  · rw [hl 11 (by omega) (by omega) (by omega), hz.l11]
  · rw [ht.g.sc]; show zz.sc = _; rw [h.sc, hz.sc]
  · rw [ht.g.L 6 (by omega) (by omega)]
    show upd (upd zz.L 3 (zz.L 3 + 1)) 6 (upd zz.L 3 (zz.L 3 + 1) 6 + 1) 6 = _
    rw [upd_same, upd_other _ _ _ _ (by omega), h.L, hz.l6]
  · rw [ht.g.F]
    show upd zz.F (upd zz.L 3 (zz.L 3 + 1) 6) (four n v u w) = _
    rw [upd_other _ _ _ _ (by omega), h.F, h.L, hz.l6, hz.F]
  · rw [ht.s4]; show zz.s4 = _; rw [h.s4, hz.s4]

def reT (tg : Nat → Nat) : Nat → Nat := fun k => if tg k = 15 then 12 else tg k
theorem Tg.re {W : World} {tg : Nat → Nat} {t k : Nat} (h : Tg W tg t k) (ht : t ≠ 15) : Tg W (reT tg) t k := ⟨by have := h.1; show (if tg k = 15 then 12 else tg k) = _; rw [if_neg (by omega)]; exact this, h.2⟩
theorem Tg.re15 {W : World} {tg : Nat → Nat} {k : Nat} (h : Tg W tg 15 k) : Tg W (reT tg) 12 k := ⟨by show (if tg k = 15 then 12 else tg k) = _; rw [if_pos h.1], h.2⟩

/-- behind 's.adj = append(s.adj, made)'. -/
def FA.ap0 (x : FA) (a' : Option Addr) (c' : Nat) (aM : Option Addr) (nm cM : Nat) (mk : Nat → Nat) : FA :=
  { x with L := upd x.L 0 (x.L 0 + 1), a := upd x.a 0 a', C := upd x.C 0 c', R := upd x.R (x.L 0) aM, d := upd x.d (x.L 0) nm, rc := upd x.rc (x.L 0) cM, N := upd x.N (x.L 0) mk }
theorem ap0_L (x : FA) (k : Nat) (a' : Option Addr) (c' : Nat) (aM : Option Addr) (nm cM : Nat) (mk : Nat → Nat) (h : k ≠ 0) : (x.ap0 a' c' aM nm cM mk).L k = x.L k := upd_other _ _ _ _ h

theorem FM.ap0 {W w wA wq : World} {tg : Nat → Nat} {bs b : Nat} {y : FA} {a' aM : Option Addr} {cap' nm cM : Nat} {mk : Nat → Nat} (h : FM W tg w bs y) (hA : Ext (fun _ => False) w wA) (hb : wA.heap.size = b)
    (ho : Own (fun k => Tg W tg 0 k ∨ k = b) (fty 0) wq a' (y.L 0 + 1) cap' (upd (y.f 0) (y.L 0) (.slice aM nm cM))) (hx : Ext (Tg W tg 0) wA wq) (hr : Rd (Tg W tg 12) w aM nm (fun i => .int .i64 (mk i : Int))) :
    wq.cell? ⟨bs, 0, none⟩ = some (.slice (y.a 0) (y.L 0) (y.C 0)) ∧ wq.frozen? ⟨bs, 0, none⟩ = false ∧
        FM W (upd tg b 0) (wq.setCell ⟨bs, 0, none⟩ (.slice a' (y.L 0 + 1) cap')) bs (y.ap0 a' cap' aM nm cM mk) ∧ Stp W tg w (upd tg b 0) (wq.setCell ⟨bs, 0, none⟩ (.slice a' (y.L 0 + 1) cap')) := by
  obtain ⟨h1, h2, h3⟩ := h.app hA hb 0 tab0 ho hx
  have h4 := h3 (y.ap0 a' cap' aM nm cM mk) ⟨rfl, rfl, rfl, rfl, rfl, rfl, fun k hk hne => ?_, fun k hk => ?_⟩ (fun p hp => ?_)
  · exact ⟨h1, h2, h4.1, h4.2⟩
  · have hlt := hk.lt
    match k, hlt, hk, hne with
    | 1, _, _, _ => rfl
    | 2, _, _, _ => rfl
    | 3, _, _, _ => rfl
    | 4, _, hk, _ => exact absurd rfl hk.n4
    | 5, _, hk, _ => exact absurd rfl hk.n5
    | 6, _, hk, _ => exact absurd rfl hk.n6
    | 7, _, _, _ => rfl
    | 8, _, _, _ => rfl
    | 9, _, _, _ => rfl
    | 10, _, _, _ => rfl
    | 11, _, _, _ => rfl
  · show Value.slice (upd y.R (y.L 0) aM k) (upd y.d (y.L 0) nm k) (upd y.rc (y.L 0) cM k) = _
    by_cases e : k = y.L 0
    · subst e; rw [upd_same, upd_same, upd_same, upd_same]
    · rw [upd_other _ _ _ _ e, upd_other _ _ _ _ e, upd_other _ _ _ _ e, upd_other _ _ _ _ e]; rfl
  · have hp' : p < y.L 0 + 1 := by
      have h5 : p < upd y.L 0 (y.L 0 + 1) 0 := hp
      rwa [upd_same] at h5
    show Rd (Tg W tg 12) w (upd y.R (y.L 0) aM p) (upd y.d (y.L 0) nm p) (fun i => .int .i64 ((upd y.N (y.L 0) mk p i : Nat) : Int))
    by_cases e : p = y.L 0
    · subst e; rw [upd_same, upd_same, upd_same]; exact hr
    · rw [upd_other _ _ _ _ e, upd_other _ _ _ _ e, upd_other _ _ _ _ e]; exact h.rows p (by omega)


theorem z7_of {n : Nat} {x xC y : FA} {nm cM : Nat} {mk : Nat → Nat} {aM : Option Addr} {s : Int} (a1 a2 a3 a4 a5 a6 a7 : Option Addr) (c1 c2 c3 c4 c5 c6 c7 : Nat) (q0 : y.L 0 = n) (q1 : y.L 1 = n) (q2 : y.L 2 = n) (q8 : y.L 8 = n) (hG : EqG xC y) (eC : xC = { x with s4 := s }) :
    Z7 n x y (((((((y.ap0 a1 c1 aM nm cM mk).ap 1 a2 c2 0 false).ap 2 a3 c3 (nm : Int) false).ap 8 a4 c4 0 false).ap 9 a5 c5 (-1) false).ap 10 a6 c6 0 false).ap 11 a7 c7 0 false) nm cM mk aM := by
  subst eC
  have l9 : y.L 9 = x.L 9 := hG.L 9 (by omega) (by omega)
  have l10 : y.L 10 = x.L 10 := hG.L 10 (by omega) (by omega)
  have l11 : y.L 11 = x.L 11 := hG.L 11 (by omega) (by omega)
  have l6 : y.L 6 = x.L 6 := hG.L 6 (by omega) (by omega)
  have gd := hG.d
  have gN := hG.N
  have grc := hG.rc
  have gma := hG.ma
  have gsd := hG.sd
  have gsc := hG.sc
  have gF := hG.F
  dsimp only at gd gN grc gma gsd gsc gF
  constructor
  · show upd y.R (y.L 0) aM n = aM; rw [q0, upd_same]
  · show upd y.d (y.L 0) nm = _; rw [q0, gd]
  · show upd y.N (y.L 0) mk = _; rw [q0, gN]
  · show upd y.rc (y.L 0) cM = _; rw [q0, grc]
  · show upd y.st (upd y.L 0 (y.L 0 + 1) 1) 0 = _; rw [upd_other _ _ _ _ (by omega), q1]
  · show upd y.dg ((y.ap0 a1 c1 aM nm cM mk).ap 1 a2 c2 0 false |>.L 2) (nm : Int) = _; rw [ap_L _ _ _ _ _ _ _ (by decide), ap0_L _ _ _ _ _ _ _ _ (by decide), q2]
  · rfl
  · rfl
  · show upd y.qu (((y.ap0 a1 c1 aM nm cM mk).ap 1 a2 c2 0 false).ap 2 a3 c3 (nm : Int) false |>.L 8) false = _
    rw [ap_L _ _ _ _ _ _ _ (by decide), ap_L _ _ _ _ _ _ _ (by decide), ap0_L _ _ _ _ _ _ _ _ (by decide), q8]
  · show upd y.ma ((((y.ap0 a1 c1 aM nm cM mk).ap 1 a2 c2 0 false).ap 2 a3 c3 (nm : Int) false).ap 8 a4 c4 0 false |>.L 9) (-1) = _
    rw [ap_L _ _ _ _ _ _ _ (by decide), ap_L _ _ _ _ _ _ _ (by decide), ap_L _ _ _ _ _ _ _ (by decide), ap0_L _ _ _ _ _ _ _ _ (by decide), l9, gma]
  · show upd y.sd (((((y.ap0 a1 c1 aM nm cM mk).ap 1 a2 c2 0 false).ap 2 a3 c3 (nm : Int) false).ap 8 a4 c4 0 false).ap 9 a5 c5 (-1) false |>.L 10) 0 = _
    rw [ap_L _ _ _ _ _ _ _ (by decide), ap_L _ _ _ _ _ _ _ (by decide), ap_L _ _ _ _ _ _ _ (by decide), ap_L _ _ _ _ _ _ _ (by decide), ap0_L _ _ _ _ _ _ _ _ (by decide), l10, gsd]
  · show upd y.sc ((((((y.ap0 a1 c1 aM nm cM mk).ap 1 a2 c2 0 false).ap 2 a3 c3 (nm : Int) false).ap 8 a4 c4 0 false).ap 9 a5 c5 (-1) false).ap 10 a6 c6 0 false |>.L 11) 0 = _
    rw [ap_L _ _ _ _ _ _ _ (by decide), ap_L _ _ _ _ _ _ _ (by decide), ap_L _ _ _ _ _ _ _ (by decide), ap_L _ _ _ _ _ _ _ (by decide), ap_L _ _ _ _ _ _ _ (by decide), ap0_L _ _ _ _ _ _ _ _ (by decide), l11, gsc]
  · exact gF
  · rfl
  all_goals simp [FA.ap, FA.ap0, upd, q0, q1, q2, q8, l9, l10, l11, l6]
end Go.Proofs.Qxb6601557a
