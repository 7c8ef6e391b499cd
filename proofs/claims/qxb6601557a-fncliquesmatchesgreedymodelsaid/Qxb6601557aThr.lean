/-
  A clique of three or more means a triangle thread: the plain law. By an AI agent.
-/
import Derived.Test.Qxb6601557aPart
import Derived.Test.Qxb6601557aGatherT
namespace Go.Proofs.Qxb6601557a
set_option linter.unusedVariables false
open Go.RowKit

section
variable {d : Nat → Nat} {N : Nat → Nat → Nat} {ok : Nat → Bool}

theorem triTo_iff (p : Nat) : ∀ i, (triTo d N ok p i).1 = true ↔ ∃ j, j < i ∧ mkd d N ok p (N p j) = true ∧ hmk d N ok p (N p j) = true
  | 0 => by simp [triTo]
  | i + 1 => by
    have ih := triTo_iff p i
    cases h : (triTo d N ok p i).1 with
    | true =>
      rw [triTo_found_le d N ok h (Nat.le_succ i), h]
      obtain ⟨j, hj, e⟩ := ih.1 h
      exact ⟨fun _ => ⟨j, by omega, e⟩, fun _ => rfl⟩
    | false =>
      rw [h] at ih
      have hn : ¬ ∃ j, j < i ∧ mkd d N ok p (N p j) = true ∧ hmk d N ok p (N p j) = true := fun x => by simpa using ih.2 x
      cases hm : mkd d N ok p (N p i) with
      | false =>
        rw [triTo_skip d N ok h hm]
        refine ⟨fun x => by simp at x, ?_⟩
        rintro ⟨j, hj, e⟩
        by_cases ej : j = i
        · subst ej; rw [hm] at e; simp at e
        · exact absurd ⟨j, by omega, e⟩ hn
      | true =>
        rw [triTo_look d N ok h hm]
        refine ⟨fun x => ⟨i, by omega, hm, x⟩, ?_⟩
        rintro ⟨j, hj, e⟩
        by_cases ej : j = i
        · subst ej; exact e.2
        · exact absurd ⟨j, by omega, e⟩ hn

theorem ttTo_spec (pl : Nat → Bool) (O : Nat → Nat) : ∀ m, (match (ttTo d N ok pl O m).1 with
    | none => ∀ l, l < m → pl (O l) = true ∨ triB d N ok (O l) = false
    | some k => k < m ∧ pl (O k) = false ∧ triB d N ok (O k) = true ∧ ∀ l, l < k → pl (O l) = true ∨ triB d N ok (O l) = false)
  | 0 => by show ∀ l, l < 0 → _; intro l hl; omega
  | m + 1 => by
    have ih := ttTo_spec pl O m
    cases h : (ttTo d N ok pl O m).1 with
    | some k =>
      rw [h] at ih
      rw [ttTo_found_le d N ok (m := m) (by rw [h]; rfl) (Nat.le_succ m), h]
      exact ⟨by have := ih.1; omega, ih.2⟩
    | none =>
      rw [h] at ih
      cases hp : pl (O m) with
      | true =>
        rw [ttTo_skip d N ok hp, h]
        intro l hl
        by_cases e : l = m
        · subst e; exact .inl hp
        · exact ih l (by omega)
      | false =>
        rw [ttTo_scan d N ok h hp]
        cases ht : triB d N ok (O m) with
        | true => exact ⟨by omega, hp, ht, ih⟩
        | false =>
          intro l hl
          by_cases e : l = m
          · subst e; exact .inr ht
          · exact ih l (by omega)

theorem ttTo_none {pl : Nat → Bool} {O : Nat → Nat} {m : Nat} (h : (ttTo d N ok pl O m).1 = none) : ∀ l, l < m → pl (O l) = true ∨ triB d N ok (O l) = false := by
  have := ttTo_spec (d := d) (N := N) (ok := ok) pl O m
  rw [h] at this; exact this
theorem ttTo_some {pl : Nat → Bool} {O : Nat → Nat} {m k : Nat} (h : (ttTo d N ok pl O m).1 = some k) : k < m ∧ pl (O k) = false ∧ triB d N ok (O k) = true ∧ ∀ l, l < k → pl (O l) = true ∨ triB d N ok (O l) = false := by
  have := ttTo_spec (d := d) (N := N) (ok := ok) pl O m
  rw [h] at this; exact this
end

section
variable {n : Nat} {d : Nat → Nat} {A : Nat → Nat → Int} {st dg : Nat → Int} {np : Nat} {P : Nat → Int} {s : CSt}

theorem wf_symN (h : WF n d A) {p q : Nat} (hp : p < n) (hm : memN (d p) (nb A p) q = true) : memN (d q) (nb A q) p = true := by
  obtain ⟨i, hi, e⟩ := memN_iff.1 hm
  have h1 := h.sym p hp i hi
  have e1 := h.nb hp hi
  have hq : q < n := by have := ((h.row p hp).1 i hi).2.1; omega
  have e2 : (A p i).toNat = q := e
  rw [e2] at h1
  obtain ⟨j, hj, e3⟩ := memB_iff.1 h1
  exact memN_iff.2 ⟨j, hj, by have := h.nb hq hj; omega⟩

theorem wf_memN (h : WF n d A) {p q : Nat} (hp : p < n) (hm : memB (d p) (A p) q = true) : memN (d p) (nb A p) q = true := by
  obtain ⟨i, hi, e⟩ := memB_iff.1 hm
  exact memN_iff.2 ⟨i, hi, by have := h.nb hp hi; omega⟩

theorem PartOk.adjN (hp : PartOk n d A dg np (pn P) s) (h : WF n d A) {c i j : Nat} (hi : i < s.sz c) (hj : j < s.sz c) (hij : i ≠ j) : memN (d (s.el c i)) (nb A (s.el c i)) (s.el c j) = true := by
  rcases Nat.lt_trichotomy i j with hl | hl | hl
  · exact wf_symN h (hp.el c j hj).1 (wf_memN h (hp.el c j hj).1 (hp.adj c j i hl hj))
  · exact absurd hl hij
  · exact wf_memN h (hp.el c i hi).1 (hp.adj c i j hl hi)

theorem PartOk.isTri (hp : PartOk n d A dg np (pn P) s) (h : WF n d A) (hpl : ∀ k, k < np → PlaceOk n st dg P k) {c i j k : Nat} (hi : i < s.sz c) (hj : j < s.sz c) (hk : k < s.sz c) (hij : i ≠ j) (hik : i ≠ k) (hjk : j ≠ k) :
    triB d (nb A) (okF st) (s.el c i) = true := by
  have hok : ∀ l, l < s.sz c → okF st (s.el c l) = true := by
    intro l hl
    obtain ⟨m, hm, e⟩ := memN_iff.1 (hp.el c l hl).2
    have := (hpl m hm).free
    unfold okF
    rw [← e]
    exact decide_eq_true this
  obtain ⟨a, ha, ea⟩ := memN_iff.1 (hp.adjN h hi hj hij)
  obtain ⟨b, hb, eb⟩ := memN_iff.1 (hp.adjN h hj hk hjk)
  refine (triTo_iff _ _).2 ⟨a, ha, ?_, ?_⟩
  · rw [ea]; unfold mkd; rw [hp.adjN h hi hj hij, hok j hj]; rfl
  · rw [ea]; unfold hmk
    refine anyB_iff.2 ⟨b, hb, ?_⟩
    rw [eb]; unfold mkd; rw [hp.adjN h hi hk hik, hok k hk]; rfl

/-- a clique of three: a thread is found, of no lesser degree than any member. -/
theorem PartOk.thread (hp : PartOk n d A dg np (pn P) s) (h : WF n d A) (hpl : ∀ k, k < np → PlaceOk n st dg P k) {t : Nat} {O : Nat → Nat} (ho : OrdOk np dg (pn P) t O) {c : Nat} (h3 : 3 ≤ s.sz c) :
    ∃ k, (ttTo d (nb A) (okF st) (fun _ => false) O np).1 = some k ∧ k < np ∧ ∀ i, i < s.sz c → dg (s.el c i) ≤ dg (O k) := by
  have htri : ∀ i, i < s.sz c → triB d (nb A) (okF st) (s.el c i) = true := by
    intro i hi
    by_cases e0 : i = 0
    · exact hp.isTri h hpl (i := i) (j := 1) (k := 2) hi (by omega) (by omega) (by omega) (by omega) (by omega)
    · by_cases e1 : i = 1
      · exact hp.isTri h hpl (i := i) (j := 0) (k := 2) hi (by omega) (by omega) (by omega) (by omega) (by omega)
      · exact hp.isTri h hpl (i := i) (j := 0) (k := 1) hi (by omega) (by omega) (by omega) (by omega) (by omega)
  have hat : ∀ i, i < s.sz c → ∃ l, l < np ∧ O l = s.el c i := by
    intro i hi
    obtain ⟨m, hm, e⟩ := memN_iff.1 (hp.el c i hi).2
    exact ⟨rk np (keyOf t dg (pn P)) m, rk_lt hm, by rw [ho.at_ m hm, e]⟩
  cases hf : (ttTo d (nb A) (okF st) (fun _ => false) O np).1 with
  | none =>
    obtain ⟨l, hl, e⟩ := hat 0 (by omega)
    rcases ttTo_none hf l hl with hx | hx
    · cases hx
    · rw [e, htri 0 (by omega)] at hx; cases hx
  | some k =>
    obtain ⟨hk, _, _, hfirst⟩ := ttTo_some hf
    refine ⟨k, rfl, hk, fun i hi => ?_⟩
    obtain ⟨l, hl, e⟩ := hat i hi
    rw [← e]
    rcases Nat.lt_trichotomy l k with hlk | hlk | hlk
    · rcases hfirst l hlk with hx | hx
      · cases hx
      · rw [e, htri i hi] at hx; cases hx
    · subst hlk; exact Int.le_refl _
    · exact ho.desc (fun i hi => (hpl i hi).dlo) hlk hl

theorem OrdOk.lt {t : Nat} {O : Nat → Nat} (ho : OrdOk np dg (pn P) t O) (hpl : ∀ k, k < np → PlaceOk n st dg P k) {k : Nat} (hk : k < np) : O k < n := by
  obtain ⟨i, hi, _, e⟩ := ho.mem k hk
  have := pn_eq (hpl i hi)
  have := (hpl i hi).hi
  omega
end
end Go.Proofs.Qxb6601557a
