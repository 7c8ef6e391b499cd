/-
  The greedy cover is a partition into cliques. By an AI agent.
-/
import Derived.Test.Qxb6601557aGather2
namespace Go.Proofs.Qxb6601557a
set_option linter.unusedVariables false
open Go.RowKit

structure PartOk (n : Nat) (d : Nat → Nat) (A : Nat → Nat → Int) (dg : Nat → Int) (np : Nat) (P : Nat → Nat) (s : CSt) : Prop where
  pos : ∀ c, c < s.nc → 0 < s.sz c
  el : ∀ c i, i < s.sz c → s.el c i < n ∧ memN np P (s.el c i) = true
  deg : ∀ c i, 0 < i → i < s.sz c → dg (s.el c i) ≤ dg (s.el c (i - 1))
  adj : ∀ c i j, j < i → i < s.sz c → memB (d (s.el c i)) (A (s.el c i)) (s.el c j) = true
  inj : ∀ c i j, i < s.sz c → j < s.sz c → s.el c i = s.el c j → i = j
  one : ∀ k, k < np → cnt s.nc (fun c => memN (s.sz c) (s.el c) (P k)) = 1
  ncle : s.nc ≤ np
  szle : ∀ c, s.sz c ≤ n

theorem OrdOk.desc {np : Nat} {dg : Nat → Int} {P : Nat → Nat} {t : Nat} {O : Nat → Nat} (h : OrdOk np dg P t O) (hd : ∀ i, i < np → 0 ≤ dg (P i)) {k l : Nat} (hkl : k < l) (hl : l < np) : dg (O l) ≤ dg (O k) := by
  obtain ⟨i, hi, e1, e2⟩ := h.mem k (by omega)
  obtain ⟨j, hj, e3, e4⟩ := h.mem l hl
  have hb := (rk_lt_iff (K := keyOf t dg P) hi hj).1 (by omega)
  have t1 := h.top.le i hi
  have t2 := h.top.le j hj
  have d1 := hd i hi
  have d2 := hd j hj
  rw [e2, e4]
  unfold bef keyOf at hb
  omega

theorem cnt_one {n k : Nat} {p : Nat → Bool} (hk : k < n) (h : ∀ i, i < n → (p i = true ↔ i = k)) : cnt n p = 1 := by
  have h1 := cnt_match n 1 (fun i => i) (fun _ => k) (fun i j _ _ e => e) (fun i j hi hj _ => by omega)
  have h2 : cnt n p = cnt n (fun i => memN 1 (fun _ => k) i) := cnt_congr (fun i hi => by
    rw [Bool.eq_iff_iff, h i hi, memN_iff]
    constructor
    · intro e; exact ⟨0, by omega, e.symm⟩
    · rintro ⟨_, _, e⟩; exact e.symm)
  rw [h2, h1, cnt_succ, cnt_zero, memN_iff.2 ⟨k, hk, rfl⟩]
  simp

theorem partOk {n : Nat} {d : Nat → Nat} {A : Nat → Nat → Int} {st dg : Nat → Int} {np : Nat} {P : Nat → Int} {t : Nat} {O : Nat → Nat} (hwf : WF n d A) (hpl : ∀ k, k < np → PlaceOk n st dg P k) (ho : OrdOk np dg (pn P) t O) :
    PartOk n d A dg np (pn P) (runC d (nb A) O np) := by
  have hpinj : ∀ i j, i < np → j < np → pn P i = pn P j → i = j := by
    intro i j hi hj e
    have e1 := pn_eq (hpl i hi)
    have e2 := pn_eq (hpl j hj)
    rcases Nat.lt_trichotomy i j with hl | hl | hl
    · exact absurd (by omega) ((hpl j hj).new i hl)
    · exact hl
    · exact absurd (by omega) ((hpl i hi).new j hl)
  have hoi := ho.inj hpinj
  have hI := cinv_run d (nb A) O np hoi np (Nat.le_refl _)
  have hlt : ∀ k, k < np → O k < n := by
    intro k hk
    obtain ⟨i, hi, _, e⟩ := ho.mem k hk
    have := pn_eq (hpl i hi)
    have := (hpl i hi).hi
    omega
  generalize whC d (nb A) O np = wh at hI
  generalize runC d (nb A) O np = s at hI
  refine ⟨hI.pos, fun c i hi => ?_, fun c i h0 hi => ?_, fun c i j hji hi => ?_, fun c => hI.elinj hoi c, fun k hk => ?_, hI.ncle, fun c => hI.sz_le hoi hlt c⟩
  · obtain ⟨k, hk, e⟩ := hI.mem c i hi
    obtain ⟨j, hj, _, e2⟩ := ho.mem k hk
    exact ⟨by rw [e]; exact hlt k hk, memN_iff.2 ⟨j, hj, by rw [e, e2]⟩⟩
  · obtain ⟨k, l, h1, h2, h3, h4⟩ := hI.ord c (i - 1) i (by omega) hi
    rw [h3, h4]
    exact ho.desc (fun i hi => (hpl i hi).dlo) h1 h2
  · have h := hI.adj c j i hji hi
    obtain ⟨k, hk, e⟩ := memN_iff.1 h
    obtain ⟨k', hk', e'⟩ := hI.mem c i hi
    have hn : s.el c i < n := by rw [e']; exact hlt k' hk'
    exact memB_iff.2 ⟨k, hk, by rw [hwf.nb hn hk, e]⟩
  · have hr := ho.at_ k hk
    have hrk : rk np (keyOf t dg (pn P)) k < np := rk_lt hk
    have hw0 := hI.who _ hrk
    rw [hr] at hw0
    have hle := hI.whle (pn P k)
    refine cnt_one (k := wh (pn P k) - 1) (by omega) (fun c hc => ?_)
    constructor
    · intro hm
      obtain ⟨i, hi, e⟩ := memN_iff.1 hm
      have := hI.whm c i hi
      rw [e] at this
      omega
    · intro e
      subst e
      obtain ⟨i, hi, e⟩ := hI.cov _ hw0
      exact memN_iff.2 ⟨i, hi, e⟩

/-- the count of place q behind c whole cliques and i members of clique c. -/
def ccF (s : CSt) (c i q : Nat) : Nat := cnt c (fun c' => memN (s.sz c') (s.el c') q) + (if memN i (s.el c) q then 1 else 0)

theorem memN_succ (i : Nat) (f : Nat → Nat) (q : Nat) : memN (i + 1) f q = (memN i f q || (f i == q)) := by
  rw [Bool.eq_iff_iff]
  simp only [Bool.or_eq_true, memN_iff, beq_iff_eq]
  constructor
  · rintro ⟨j, hj, e⟩
    by_cases h : j = i
    · subst h; exact .inr e
    · exact .inl ⟨j, by omega, e⟩
  · rintro (⟨j, hj, e⟩ | e)
    · exact ⟨j, by omega, e⟩
    · exact ⟨i, by omega, e⟩

theorem ccF_step {s : CSt} {c i : Nat} (hinj : ∀ i j, i < s.sz c → j < s.sz c → s.el c i = s.el c j → i = j) (hi : i < s.sz c) : ccF s c (i + 1) = upd1 (ccF s c i) (s.el c i) (ccF s c i (s.el c i) + 1) := by
  funext q
  by_cases e : q = s.el c i
  · subst e
    rw [upd1_same]
    unfold ccF
    have h0 : memN i (s.el c) (s.el c i) = false := memN_false.2 (fun j hj e => by have := hinj j i (by omega) hi e; omega)
    rw [memN_succ, h0]
    simp
  · rw [upd1_other _ _ _ _ e]
    unfold ccF
    rw [memN_succ]
    have : (s.el c i == q) = false := by rw [beq_eq_false_iff_ne]; exact fun h => e h.symm
    rw [this, Bool.or_false]

theorem ccF_next (s : CSt) (c : Nat) : ccF s c (s.sz c) = ccF s (c + 1) 0 := by
  funext q
  unfold ccF
  rw [cnt_succ]
  simp [memN]

theorem ccF_zero (s : CSt) (q : Nat) : ccF s 0 0 q = 0 := by simp [ccF, cnt, memN]

/-- one table of the call's own in block g, made behind wc; nothing elder has turned. -/
structure Tab (wc wr : World) (e : TypeId) (g n : Nat) (f : Nat → Value) : Prop where
  ext : Ext (fun _ => False) wc wr
  own : Own (fun k => k = g) e wr (some ⟨g, 0, none⟩) n n f
  lo : wc.heap.size ≤ g

theorem Tab.at {wc wr : World} {e : TypeId} {g n : Nat} {f : Nat → Value} (h : Tab wc wr e g n f) (j : Nat) (hj : j < n) : wr.cell? ⟨g, j, none⟩ = some (f j) ∧ wr.frozen? ⟨g, j, none⟩ = false ∧
    ∀ v, Tab wc (wr.setCell ⟨g, j, none⟩ v) e g n (upd f j v) := by
  obtain ⟨g', _, hS, _, hc, hf, hst⟩ := h.own.at j hj
  obtain rfl : g' = g := hS
  exact ⟨hc, hf, fun v => ⟨h.ext.setCell (fun hlt => absurd hlt (by have := h.lo; simp; omega)) _, hst v, h.lo⟩⟩

/-- a table stays while a later block turns. -/
theorem Tab.later {wc wr wq : World} {e : TypeId} {g n : Nat} {f : Nat → Value} (h : Tab wc wr e g n f) {T : Nat → Prop} (hx : Ext T wr wq) (hT : ∀ k, k ≤ g → ¬ T k) : Tab wc wq e g n f :=
  ⟨h.ext.trans hx (fun i hi ht => hT i (by have := h.lo; omega) ht), h.own.ext hx (fun k hk => by subst hk; exact hT _ (Nat.le_refl _)), h.lo⟩

theorem Tab.congr {wc wr : World} {e : TypeId} {g n : Nat} {f f' : Nat → Value} (h : Tab wc wr e g n f) (hf : ∀ j, j < n → f j = f' j) : Tab wc wr e g n f' := ⟨h.ext, h.own.congr hf, h.lo⟩

theorem Tab.drewN {wc wr : World} {e : TypeId} {g n : Nat} {f : Nat → Value} (h : Tab wc wr e g n f) (k : Nat) : Tab wc (wr.drewN k) e g n f := ⟨h.ext.drewN k, h.own.drewN k, h.lo⟩

theorem upd_memN (P : Nat → Nat) (k j : Nat) : upd (fun i => Value.bool (memN k P i)) (P k) (.bool true) j = .bool (memN (k + 1) P j) := by
  rw [memN_succ]
  unfold upd
  by_cases e : j = P k
  · rw [if_pos e, e]; simp
  · rw [if_neg e]
    have : (P k == j) = false := by rw [beq_eq_false_iff_ne]; exact fun h => e h.symm
    rw [this, Bool.or_false]

end Go.Proofs.Qxb6601557a
