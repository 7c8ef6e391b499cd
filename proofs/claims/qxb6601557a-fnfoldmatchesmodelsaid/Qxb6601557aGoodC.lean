/-
  A region that reads, lays one element, appends it, stores the slice: its relation. By an AI agent.
-/
import Derived.Test.Qxb6601557aGoodB
namespace Go.Proofs.Qxb6601557a
set_option linter.unusedVariables false
open Go.RowKit

def IsV (m : Nat → Option Value) (k : Nat) (x : Value) : Prop := ∀ u, m k = some u → u = x
theorem IsV.all {m : Nat → Option Value} {i k : Nat} {u x : Value} (h : IsV m k x) (hu : i = k → u = x) : IsV (updO m i u) k x := by
  intro y hy
  unfold updO at hy
  by_cases e : k = i
  · subst e; rw [if_pos rfl] at hy; injection hy with hy; rw [← hy]; exact hu rfl
  · rw [if_neg e] at hy; exact h y hy

theorem updO_ne {m : Nat → Option Value} {i k : Nat} {u : Value} (h : m k ≠ none) : updO m i u k ≠ none := by
  unfold updO; split
  · simp
  · exact h
theorem updO_eq {m : Nat → Option Value} {i : Nat} {u : Value} : updO m i u i = some u := by simp [updO]
theorem updO_off {m : Nat → Option Value} {i k : Nat} {u : Value} (h : k ≠ i) : updO m i u k = m k := by simp [updO, h]

structure RA (val : Nat → Option Value) (lI bI aI sI : Nat) (K Ph0 : World → Prop) (Ph1 Ph2 : Value → World → Prop) (Ph3 : World → Prop) (m : Nat → Option Value) (w : World) : Prop where
  vals : ∀ i v, val i = some v → IsV m i v
  k : K w
  st : (m bI = none ∧ m aI = none ∧ m sI = none ∧ Ph0 w) ∨ (∃ vb, m bI = some vb ∧ m aI = none ∧ m sI = none ∧ Ph1 vb w) ∨ (∃ va, m bI ≠ none ∧ m lI ≠ none ∧ m aI = some va ∧ m sI = none ∧ Ph2 va w) ∨ (m bI ≠ none ∧ m lI ≠ none ∧ m aI ≠ none ∧ m sI ≠ none ∧ Ph3 w)

section
variable {val : Nat → Option Value} {lI bI aI sI : Nat} {K Ph0 : World → Prop} {Ph1 Ph2 : Value → World → Prop} {Ph3 : World → Prop} {m : Nat → Option Value} {w : World}

theorem RA.start (hk : K w) (h0 : Ph0 w) : RA val lI bI aI sI K Ph0 Ph1 Ph2 Ph3 (fun _ => none) w :=
  ⟨fun i v _ u h => (by cases h), hk, .inl ⟨rfl, rfl, rfl, h0⟩⟩

/-- an operation that only reads. -/
theorem RA.rd (h : RA val lI bI aI sI K Ph0 Ph1 Ph2 Ph3 m w) (i : Nat) (u : Value) (hb : bI ≠ i) (ha : aI ≠ i) (hs : sI ≠ i) (hu : val i = some u) : RA val lI bI aI sI K Ph0 Ph1 Ph2 Ph3 (updO m i u) w := by
  refine ⟨fun k v hk => (h.vals k v hk).all (fun e => by subst e; rw [hu] at hk; injection hk), h.k, ?_⟩
  rcases h.st with ⟨h1, h2, h3, h4⟩ | ⟨vb, h1, h2, h3, h4⟩ | ⟨va, h1, h2, h3, h4, h5⟩ | ⟨h1, h2, h3, h4, h5⟩
  · exact .inl ⟨by rw [updO_off hb]; exact h1, by rw [updO_off ha]; exact h2, by rw [updO_off hs]; exact h3, h4⟩
  · exact .inr (.inl ⟨vb, by rw [updO_off hb]; exact h1, by rw [updO_off ha]; exact h2, by rw [updO_off hs]; exact h3, h4⟩)
  · exact .inr (.inr (.inl ⟨va, updO_ne h1, updO_ne h2, by rw [updO_off ha]; exact h3, by rw [updO_off hs]; exact h4, h5⟩))
  · exact .inr (.inr (.inr ⟨updO_ne h1, updO_ne h2, updO_ne h3, updO_ne h4, h5⟩))

/-- the load that the store will overtake. -/
theorem RA.early (h : RA val lI bI aI sI K Ph0 Ph1 Ph2 Ph3 m w) (hm : m lI = none) : Ph0 w ∨ ∃ vb, Ph1 vb w := by
  rcases h.st with ⟨h1, h2, h3, h4⟩ | ⟨vb, h1, h2, h3, h4⟩ | ⟨va, h1, h2, h3, h4, h5⟩ | ⟨h1, h2, h3, h4, h5⟩
  · exact .inl h4
  · exact .inr ⟨vb, h4⟩
  · exact absurd hm h2
  · exact absurd hm h2

theorem RA.at0 (h : RA val lI bI aI sI K Ph0 Ph1 Ph2 Ph3 m w) (hm : m bI = none) : Ph0 w ∧ m aI = none ∧ m sI = none := by
  rcases h.st with ⟨h1, h2, h3, h4⟩ | ⟨vb, h1, h2, h3, h4⟩ | ⟨va, h1, h2, h3, h4, h5⟩ | ⟨h1, h2, h3, h4, h5⟩
  · exact ⟨h4, h2, h3⟩
  · rw [hm] at h1; cases h1
  · exact absurd hm h1
  · exact absurd hm h1

theorem RA.at1 (h : RA val lI bI aI sI K Ph0 Ph1 Ph2 Ph3 m w) (hm : m aI = none) {u : Value} (hb : m bI = some u) : Ph1 u w ∧ m sI = none := by
  rcases h.st with ⟨h1, h2, h3, h4⟩ | ⟨vb, h1, h2, h3, h4⟩ | ⟨va, h1, h2, h3, h4, h5⟩ | ⟨h1, h2, h3, h4, h5⟩
  · rw [hb] at h1; cases h1
  · rw [hb] at h1; injection h1 with h1; subst h1; exact ⟨h4, h3⟩
  · rw [hm] at h3; cases h3
  · exact absurd hm h3

theorem RA.at2 (h : RA val lI bI aI sI K Ph0 Ph1 Ph2 Ph3 m w) (hm : m sI = none) {u : Value} (ha : m aI = some u) : Ph2 u w ∧ m bI ≠ none ∧ m lI ≠ none := by
  rcases h.st with ⟨h1, h2, h3, h4⟩ | ⟨vb, h1, h2, h3, h4⟩ | ⟨va, h1, h2, h3, h4, h5⟩ | ⟨h1, h2, h3, h4, h5⟩
  · rw [ha] at h2; cases h2
  · rw [ha] at h2; cases h2
  · rw [ha] at h3; injection h3 with h3; subst h3; exact ⟨h5, h1, h2⟩
  · exact absurd hm h4

theorem RA.bld {w' : World} (h : RA val lI bI aI sI K Ph0 Ph1 Ph2 Ph3 m w) (hm : m bI = none) {u : Value} (hv : val bI = none) (hab : aI ≠ bI) (hsb : sI ≠ bI) (hk : K w') (h1 : Ph1 u w') : RA val lI bI aI sI K Ph0 Ph1 Ph2 Ph3 (updO m bI u) w' := by
  obtain ⟨_, h2, h3⟩ := h.at0 hm
  exact ⟨fun k v hk => (h.vals k v hk).all (fun e => by subst e; rw [hv] at hk; cases hk), hk, .inr (.inl ⟨u, updO_eq, by rw [updO_off hab]; exact h2, by rw [updO_off hsb]; exact h3, h1⟩)⟩

theorem RA.app {w' : World} (h : RA val lI bI aI sI K Ph0 Ph1 Ph2 Ph3 m w) (hm : m aI = none) {ub ul u : Value} (hb : m bI = some ub) (hl : m lI = some ul) (hv : val aI = none) (hsa : sI ≠ aI) (hk : K w') (h1 : Ph2 u w') : RA val lI bI aI sI K Ph0 Ph1 Ph2 Ph3 (updO m aI u) w' := by
  obtain ⟨_, h3⟩ := h.at1 hm hb
  exact ⟨fun k v hk => (h.vals k v hk).all (fun e => by subst e; rw [hv] at hk; cases hk), hk, .inr (.inr (.inl ⟨u, updO_ne (by rw [hb]; simp), updO_ne (by rw [hl]; simp), updO_eq, by rw [updO_off hsa]; exact h3, h1⟩))⟩

theorem RA.sto {w' : World} (h : RA val lI bI aI sI K Ph0 Ph1 Ph2 Ph3 m w) (hm : m sI = none) {ua u : Value} (ha : m aI = some ua) (hv : val sI = none) (hk : K w') (h1 : Ph3 w') : RA val lI bI aI sI K Ph0 Ph1 Ph2 Ph3 (updO m sI u) w' := by
  obtain ⟨_, h2, h3⟩ := h.at2 hm ha
  exact ⟨fun k v hk => (h.vals k v hk).all (fun e => by subst e; rw [hv] at hk; cases hk), hk, .inr (.inr (.inr ⟨updO_ne h2, updO_ne h3, updO_ne (by rw [ha]; simp), by rw [updO_eq]; simp, h1⟩))⟩

theorem RA.fin (h : RA val lI bI aI sI K Ph0 Ph1 Ph2 Ph3 m w) (hm : m sI ≠ none) : Ph3 w := by
  rcases h.st with ⟨h1, h2, h3, h4⟩ | ⟨vb, h1, h2, h3, h4⟩ | ⟨va, h1, h2, h3, h4, h5⟩ | ⟨h1, h2, h3, h4, h5⟩
  · exact absurd h3 hm
  · exact absurd h3 hm
  · exact absurd h4 hm
  · exact h5
end

theorem cellX {T : Nat → Prop} {w w' : World} {b o : Nat} {v : Value} (hc : w.cell? ⟨b, o, none⟩ = some v) (hx : Ext T w w') (hT : ¬ T b) : w'.cell? ⟨b, o, none⟩ = some v := by
  have hlt : b < w.heap.size := World.block_lt_of_cell? w _ hc
  exact (World.cell?_of_block (a := ⟨b, o, none⟩) (hx.block b hlt hT)).trans hc

theorem run_fld68 {a : Act} {w : World} {o : Oper} (x : Operand) (ho : o.op = .fieldAddr 68 x 0) (b : Nat) (hx : a.eval x = .pointer (some ⟨b, 0, none⟩)) : (execOp a.eval o).run Try.prog w = .ok (.value (.pointer (some ⟨b, 0, none⟩))) w := by
  unfold execOp
  simp [ho, hx]
  go_simp

def FA.apF (x : FA) (a' : Option Addr) (c' : Nat) (f : Nat → Int) : FA := { x with L := upd x.L 6 (x.L 6 + 1), a := upd x.a 6 a', C := upd x.C 6 c', F := upd x.F (x.L 6) f }

/-- behind 's.folds = append(s.folds, f)'. -/
theorem FM.appF {W w wA wq : World} {tag : Nat → Nat} {bs b : Nat} {x : FA} {a' : Option Addr} {cap' : Nat} {f : Nat → Int} (h : FM W tag w bs x) (hA : Ext (fun _ => False) w wA) (hb : wA.heap.size = b)
    (ho : Own4 (fun k => Tg W tag 6 k ∨ k = b) 68 wq a' (x.L 6 + 1) cap' (upd x.F (x.L 6) f)) (hx : Ext (Tg W tag 6) wA wq) :
    wq.cell? ⟨bs, 6, none⟩ = some (.slice (x.a 6) (x.L 6) (x.C 6)) ∧ wq.frozen? ⟨bs, 6, none⟩ = false ∧
        FM W (upd tag b 6) (wq.setCell ⟨bs, 6, none⟩ (.slice a' (x.L 6 + 1) cap')) bs (x.apF a' cap' f) ∧ Stp W tag w (upd tag b 6) (wq.setCell ⟨bs, 6, none⟩ (.slice a' (x.L 6 + 1) cap')) := by
  have hws := hA.size
  have hsz := h.siz
  have htg : ∀ k, k < w.heap.size → upd tag b 6 k = tag k := fun k hk => upd_other _ _ _ _ (by omega)
  have hx1 : Ext (Tg W tag 6) w wq := ((Ext.refl (Tg W tag 6) w).trans hA (fun _ _ h => h.elim)).trans hx (fun _ _ h => h)
  have ne1 : ∀ {t : Nat}, t ≠ 6 → ∀ k, Tg W tag t k → ¬ Tg W tag 6 k := fun hne k hk e => by have := hk.1; have := e.1; omega
  have hstr1 : Own (Tg W (upd tag b 6) 13) 66 wq (some ⟨bs, 0, none⟩) 12 12 x.v := h.str.tagged hx1 (ne1 (by omega)) htg
  obtain ⟨g, eg, hS, hlt, hc, hf, hst⟩ := hstr1.at 6 (by omega)
  obtain rfl : bs = g := by simpa using eg
  have hx2 : Ext (fun k => k = bs) wq (wq.setCell ⟨bs, 6, none⟩ (.slice a' (x.L 6 + 1) cap')) := (Ext.refl (fun k => k = bs) _).setCell (fun _ => rfl) _
  have hx3 : Ext (fun k => Tg W tag 6 k ∨ k = bs) w (wq.setCell ⟨bs, 6, none⟩ (.slice a' (x.L 6 + 1) cap')) := (hx1.mono (fun _ _ h => .inl h)).trans hx2 (fun _ _ h => .inr h)
  have hbs : tag bs = 13 := (h.fld 0 (by omega)).2.2.1
  have hbW := (h.fld 0 (by omega)).2.2.2.1
  have ne3 : ∀ {t : Nat}, t ≠ 6 → t ≠ 13 → ∀ k, Tg W tag t k → ¬ (Tg W tag 6 k ∨ k = bs) := by
    rintro t h1 h2 k hk (e | e)
    · exact ne1 h1 k hk e
    · subst e; have := hk.1; omega
  have ff : ∀ k, (x.apF a' cap' f).f k = x.f k := by
    intro k
    match k with
    | 0 => rfl
    | 1 => rfl
    | 2 => rfl
    | 3 => rfl
    | 4 => rfl
    | 5 => rfl
    | 6 => rfl
    | 7 => rfl
    | 8 => rfl
    | 9 => rfl
    | 10 => rfl
    | k + 11 => rfl
  refine ⟨by rw [hc]; simp [FA.v], hf, ⟨(hst _).congr (fun k _ => ?_), fun k hk => ?_, ?_, fun p hp => (h.rows p (by
    have h5 : p < upd x.L 6 (x.L 6 + 1) 0 := hp
    rwa [upd_other _ _ _ _ (by omega)] at h5)).tagged hx3 (ne3 (by omega) (by omega)) htg, Nat.le_trans h.siz hx3.size⟩, hx3.mono (fun k hk e => ?_), htg⟩
  · by_cases e : k = 6
    · subst e; rw [upd_same]; simp [FA.v, FA.apF, upd_same]
    · rw [upd_other _ _ _ _ e]; simp [FA.v, FA.apF, upd_other _ _ _ _ e]
  · rw [ff k]
    show Own _ _ _ (upd x.a 6 a' k) (upd x.L 6 (x.L 6 + 1) k) (upd x.C 6 cap' k) _
    rw [upd_other _ _ _ _ hk.n6, upd_other _ _ _ _ hk.n6, upd_other _ _ _ _ hk.n6]
    exact (h.tab k hk).tagged hx3 (ne3 hk.n6 (by have := hk.lt; omega)) htg
  · show Own4 _ _ _ (upd x.a 6 a' 6) (upd x.L 6 (x.L 6 + 1) 6) (upd x.C 6 cap' 6) (upd x.F (x.L 6) f)
    rw [upd_same, upd_same, upd_same]
    rcases ho with ho | ⟨g, cur, rfl, hS', hg, r⟩
    · exact .inl ho
    · have hgl := (Array.getElem?_eq_some_iff.1 hg).1
      have hgt : Tg W (upd tag b 6) 6 g := by
        rcases hS' with hi | rfl
        · by_cases e : g = b
          · subst e; exact ⟨upd_same _ _ _, by omega⟩
          · exact ⟨by rw [upd_other _ _ _ _ e]; exact hi.1, hi.2⟩
        · exact ⟨upd_same _ _ _, by omega⟩
      refine .inr ⟨g, cur, rfl, hgt, (hx2.block g hgl (fun e => ?_)).trans hg, r⟩
      subst e
      have := hgt.1
      rw [htg _ (h.fld 0 (by omega)).2.2.2.2] at this
      omega
  · rcases e with e | rfl
    · exact ⟨e.2, by have := e.1; omega⟩
    · exact ⟨hbW, by omega⟩
end Go.Proofs.Qxb6601557a
