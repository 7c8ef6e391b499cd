/-
  The memory of 'fold': the search's fields as tables of their own, told apart by tags. By an AI agent.
-/
import Derived.Test.Qxb6601557aCliqM
import Derived.Test.Qxb6601557aKey
namespace Go.Proofs.Qxb6601557a
set_option linter.unusedVariables false
open Go.RowKit

/-- all that the search holds: the slices' lengths, capacities and heads by field, and what they hold. -/
structure FA where
  L : Nat → Nat
  C : Nat → Nat
  a : Nat → Option Addr
  R : Nat → Option Addr
  rc : Nat → Nat
  d : Nat → Nat
  N : Nat → Nat → Nat
  st : Nat → Int
  dg : Nat → Int
  tr : Nat → Int
  tu : Nat → Int
  qu : Nat → Bool
  ma : Nat → Int
  sd : Nat → Int
  sc : Nat → Int
  F : Nat → Nat → Int
  s4 : Int
  s5 : Int

def FA.f (x : FA) : Nat → Nat → Value
  | 0 => fun p => .slice (x.R p) (x.d p) (x.rc p)
  | 1 => fun k => .int .i8 (x.st k)
  | 2 => fun k => .int .i64 (x.dg k)
  | 3 => fun k => .int .i64 (x.tr k)
  | 7 => fun k => .int .i64 (x.tu k)
  | 8 => fun k => .bool (x.qu k)
  | 9 => fun k => .int .i64 (x.ma k)
  | 10 => fun k => .int .i8 (x.sd k)
  | _ => fun k => .int .i64 (x.sc k)

def fty : Nat → TypeId
  | 0 => 24
  | 1 => 39
  | 8 => 4
  | 10 => 39
  | _ => 3

def FA.v (x : FA) (j : Nat) : Value := if j = 4 then .int .i64 x.s4 else if j = 5 then .int .i64 x.s5 else .slice (x.a j) (x.L j) (x.C j)

structure IsTab (j : Nat) : Prop where
  lt : j < 12
  n4 : j ≠ 4
  n5 : j ≠ 5
  n6 : j ≠ 6

/-- nil, or the head of an own block: n elements of four numbers. -/
def Own4 (S : Nat → Prop) (e : TypeId) (w : World) (a : Option Addr) (n cap : Nat) (F : Nat → Nat → Int) : Prop :=
  (a = none ∧ n = 0 ∧ cap = 0) ∨
  ∃ g cur, a = some ⟨g, 0, none⟩ ∧ S g ∧ w.heap[g]? = some (.cells cur e (0, 0)) ∧ n ≤ cap ∧ cap ≤ maxLen ∧ cur.size = 4 * cap ∧ ∀ j i, j < n → i < 4 → cur[4 * j + i]? = some (.int .i64 (F j i))

structure FM (W : World) (tag : Nat → Nat) (w : World) (bs : Nat) (x : FA) : Prop where
  str : Own (Tg W tag 13) 66 w (some ⟨bs, 0, none⟩) 12 12 x.v
  tab : ∀ j, IsTab j → Own (Tg W tag j) (fty j) w (x.a j) (x.L j) (x.C j) (x.f j)
  fo : Own4 (Tg W tag 6) 68 w (x.a 6) (x.L 6) (x.C 6) x.F
  rows : ∀ p, p < x.L 0 → Rd (Tg W tag 12) w (x.R p) (x.d p) (fun i => .int .i64 (x.N p i : Int))
  siz : W.heap.size ≤ w.heap.size

/-- from (tag, w) to (tag', w'): only the search's own blocks may have turned; the tags of what lay there are as they were. -/
structure Stp (W : World) (tag : Nat → Nat) (w : World) (tag' : Nat → Nat) (w' : World) : Prop where
  ext : Ext (fun k => W.heap.size ≤ k ∧ tag k ≤ 13) w w'
  tg : ∀ k, k < w.heap.size → tag' k = tag k

theorem Stp.refl (W : World) (tag : Nat → Nat) (w : World) : Stp W tag w tag w := ⟨Ext.refl _ _, fun _ _ => rfl⟩
theorem Stp.trans {W : World} {tag tag' tag'' : Nat → Nat} {w w' w'' : World} (h : Stp W tag w tag' w') (k : Stp W tag' w' tag'' w'') : Stp W tag w tag'' w'' :=
  ⟨h.ext.trans k.ext (fun i hi h2 => ⟨h2.1, by rw [← h.tg i hi]; exact h2.2⟩), fun i hi => (k.tg i (Nat.lt_of_lt_of_le hi h.ext.size)).trans (h.tg i hi)⟩
theorem Stp.drewN {W : World} {tag tag' : Nat → Nat} {w w' : World} (h : Stp W tag w tag' w') (k : Nat) : Stp W tag w tag' (w'.drewN k) := ⟨h.ext.drewN k, h.tg⟩
theorem Stp.drew {W : World} {tag tag' : Nat → Nat} {w w' : World} (h : Stp W tag w tag' w') : Stp W tag w tag' w'.drew := ⟨h.ext.drew, h.tg⟩
theorem Stp.out {W : World} {tag tag' : Nat → Nat} {w w' : World} (h : Stp W tag w tag' w') (hW : Ext (fun _ => False) W w) : Ext (fun _ => False) W w' :=
  hW.trans h.ext (fun i hi h2 => by have := h2.1; omega)

section
variable {W w w' : World} {tag tag' : Nat → Nat} {t : Nat} {e : TypeId} {a : Option Addr} {n cap : Nat} {f : Nat → Value} {F : Nat → Nat → Int} {T : Nat → Prop}

theorem Own.tagged (o : Own (Tg W tag t) e w a n cap f) (hx : Ext T w w') (hT : ∀ k, Tg W tag t k → ¬ T k) (htg : ∀ k, k < w.heap.size → tag' k = tag k) : Own (Tg W tag' t) e w' a n cap f := by
  have o1 : Own (Tg W tag' t) e w a n cap f := o.mono_lt (fun k hk h => ⟨(htg k hk).trans h.1, h.2⟩)
  exact o1.kept (fun k hk hlt => hx.block k hlt (hT k ⟨(htg k hlt).symm.trans hk.1, hk.2⟩))

theorem Own4.tagged (o : Own4 (Tg W tag t) e w a n cap F) (hx : Ext T w w') (hT : ∀ k, Tg W tag t k → ¬ T k) (htg : ∀ k, k < w.heap.size → tag' k = tag k) : Own4 (Tg W tag' t) e w' a n cap F := by
  rcases o with o | ⟨g, cur, rfl, hS, hg, r⟩
  · exact .inl o
  · have hlt := (Array.getElem?_eq_some_iff.1 hg).1
    exact .inr ⟨g, cur, rfl, ⟨(htg g hlt).trans hS.1, hS.2⟩, (hx.block g hlt (hT g hS)).trans hg, r⟩

theorem Rd.tagged (o : Rd (Tg W tag t) w a n f) (hx : Ext T w w') (hT : ∀ k, Tg W tag t k → ¬ T k) (htg : ∀ k, k < w.heap.size → tag' k = tag k) : Rd (Tg W tag' t) w' a n f := by
  intro j hj
  obtain ⟨b, off, ha, hS, hc⟩ := o j hj
  have hlt : b < w.heap.size := World.block_lt_of_cell? w _ hc
  exact ⟨b, off, ha, ⟨(htg b hlt).trans hS.1, hS.2⟩, (World.cell?_of_block (a := ⟨b, off + j, none⟩) (hx.block b hlt (hT b hS))).trans hc⟩

theorem Own.stp (o : Own (Tg W tag t) e w a n cap f) (h : Stp W tag w tag' w') (ht : 14 ≤ t) : Own (Tg W tag' t) e w' a n cap f :=
  o.tagged h.ext (fun k hk h2 => by have := hk.1; have := h2.2; omega) h.tg
theorem Rd.stp (o : Rd (Tg W tag t) w a n f) (h : Stp W tag w tag' w') (ht : 14 ≤ t) : Rd (Tg W tag' t) w' a n f :=
  o.tagged h.ext (fun k hk h2 => by have := hk.1; have := h2.2; omega) h.tg
end

section
variable {W w wA wq : World} {tag : Nat → Nat} {bs : Nat} {x : FA}

/-- worlds that differ by nothing that the search holds. -/
theorem FM.later {tag' : Nat → Nat} (h : FM W tag w bs x) {T : Nat → Prop} (hx : Ext T w wq) (hT : ∀ k, W.heap.size ≤ k → tag k ≤ 13 → ¬ T k) (htg : ∀ k, k < w.heap.size → tag' k = tag k) : FM W tag' wq bs x :=
  ⟨h.str.tagged hx (fun k hk => hT k hk.2 (by have := hk.1; omega)) htg, fun j hj => (h.tab j hj).tagged hx (fun k hk => hT k hk.2 (by have := hk.1; have := hj.lt; omega)) htg,
    h.fo.tagged hx (fun k hk => hT k hk.2 (by have := hk.1; omega)) htg, fun p hp => (h.rows p hp).tagged hx (fun k hk => hT k hk.2 (by have := hk.1; omega)) htg, Nat.le_trans h.siz hx.size⟩

theorem FM.drew (h : FM W tag w bs x) : FM W tag w.drew bs x := h.later (T := fun _ => False) ((Ext.refl _ _).drew) (fun _ _ _ h => h) (fun _ _ => rfl)
theorem FM.drewN (h : FM W tag w bs x) (k : Nat) : FM W tag (w.drewN k) bs x := h.later (T := fun _ => False) ((Ext.refl _ _).drewN k) (fun _ _ _ h => h) (fun _ _ => rfl)
theorem FM.alloc (h : FM W tag w bs x) (o : Obj) : FM W tag (w.alloc o) bs x := h.later (T := fun _ => False) ((Ext.refl _ _).alloc o) (fun _ _ _ h => h) (fun _ _ => rfl)

theorem FM.fld (h : FM W tag w bs x) (j : Nat) (hj : j < 12) : w.cell? ⟨bs, j, none⟩ = some (x.v j) ∧ w.frozen? ⟨bs, j, none⟩ = false ∧ tag bs = 13 ∧ W.heap.size ≤ bs ∧ bs < w.heap.size := by
  obtain ⟨g, eg, hS, hlt, hc, hf, hst⟩ := h.str.at j hj
  obtain rfl : bs = g := by simpa using eg
  exact ⟨hc, hf, hS.1, hS.2, hlt⟩

theorem FM.sl (h : FM W tag w bs x) (j : Nat) (hj : j < 12) (h4 : j ≠ 4) (h5 : j ≠ 5) : w.cell? ⟨bs, j, none⟩ = some (.slice (x.a j) (x.L j) (x.C j)) := by
  rw [(h.fld j hj).1]; simp [FA.v, h4, h5]

theorem FM.frz (h : FM W tag w bs x) (j : Nat) (hj : j < 12) : w.frozen? ⟨bs, j, none⟩ = false := (h.fld j hj).2.1

/-- the steps: read, and written. -/
theorem FM.steps (h : FM W tag w bs x) : w.cell? ⟨bs, 4, none⟩ = some (.int .i64 x.s4) ∧ w.frozen? ⟨bs, 4, none⟩ = false ∧
    ∀ s, FM W tag (w.setCell ⟨bs, 4, none⟩ (.int .i64 s)) bs { x with s4 := s } ∧ Stp W tag w tag (w.setCell ⟨bs, 4, none⟩ (.int .i64 s)) := by
  obtain ⟨hc, hf, ht, hWb, hlt⟩ := h.fld 4 (by omega)
  refine ⟨by rw [hc]; rfl, hf, fun s => ?_⟩
  have hx : Ext (fun k => k = bs) w (w.setCell ⟨bs, 4, none⟩ (.int .i64 s)) := (Ext.refl (fun k => k = bs) _).setCell (fun _ => rfl) _
  have ne : ∀ {t : Nat}, t ≠ 13 → ∀ k, Tg W tag t k → ¬ k = bs := fun hne k hk e => by subst e; have := hk.1; omega
  obtain ⟨g, eg, hS, _, _, _, hst⟩ := h.str.at 4 (by omega)
  obtain rfl : bs = g := by simpa using eg
  refine ⟨⟨(hst _).congr (fun j _ => ?_), fun j hj => (h.tab j hj).ext hx (ne (by have := hj.lt; omega)), h.fo.tagged hx (ne (by omega)) (fun _ _ => rfl), fun p hp => (h.rows p hp).ext hx (ne (by omega)), Nat.le_trans h.siz hx.size⟩, hx.mono (fun k _ e => by subst e; exact ⟨hWb, by omega⟩), fun _ _ => rfl⟩
  by_cases e : j = 4
  · subst e; rw [upd_same]; rfl
  · rw [upd_other _ _ _ _ e]; simp [FA.v, e]

/-- what a store into one cell of table j leaves as it was. -/
structure Same1 (x x' : FA) (j : Nat) : Prop where
  L : x'.L = x.L
  C : x'.C = x.C
  a : x'.a = x.a
  R : x'.R = x.R
  d : x'.d = x.d
  N : x'.N = x.N
  F : x'.F = x.F
  s4 : x'.s4 = x.s4
  s5 : x'.s5 = x.s5
  f : ∀ k, IsTab k → k ≠ j → x'.f k = x.f k

theorem FM.at (h : FM W tag w bs x) (j : Nat) (hj : IsTab j) (i : Nat) (hi : i < x.L j) :
    ∃ g, x.a j = some ⟨g, 0, none⟩ ∧ w.cell? ⟨g, i, none⟩ = some (x.f j i) ∧ w.frozen? ⟨g, i, none⟩ = false ∧
      ∀ v x', Same1 x x' j → (∀ k, k < x.L j → x'.f j k = upd (x.f j) i v k) → FM W tag (w.setCell ⟨g, i, none⟩ v) bs x' ∧ Stp W tag w tag (w.setCell ⟨g, i, none⟩ v) := by
  obtain ⟨g, eg, hS, hlt, hc, hf, hst⟩ := (h.tab j hj).at i hi
  refine ⟨g, eg, hc, hf, fun v x' hs hu => ?_⟩
  have hx : Ext (fun k => k = g) w (w.setCell ⟨g, i, none⟩ v) := (Ext.refl (fun k => k = g) _).setCell (fun _ => rfl) _
  have hgt := hS.1
  have ne : ∀ {t : Nat}, t ≠ j → ∀ k, Tg W tag t k → ¬ k = g := fun hne k hk e => by subst e; have := hk.1; omega
  refine ⟨⟨(h.str.ext hx (ne (by have := hj.lt; omega))).congr (fun k _ => ?_), fun k hk => ?_, ?_, fun p hp => ?_, Nat.le_trans h.siz hx.size⟩, hx.mono (fun k _ e => by subst e; exact ⟨hS.2, by have := hj.lt; omega⟩), fun _ _ => rfl⟩
  · simp only [FA.v, hs.L, hs.C, hs.a, hs.s4, hs.s5]
  · rw [hs.a, hs.L, hs.C]
    by_cases e : k = j
    · subst e
      rw [eg]
      exact (hst v).congr (fun m hm => (hu m hm).symm)
    · rw [hs.f k hk e]
      exact (h.tab k hk).ext hx (ne e)
  · rw [hs.a, hs.L, hs.C, hs.F]
    exact h.fo.tagged hx (ne (Ne.symm hj.n6)) (fun _ _ => rfl)
  · rw [hs.R, hs.d, hs.N]
    rw [hs.L] at hp
    exact (h.rows p hp).ext hx (ne (by have := hj.lt; omega))

/-- what 'x.field j = append(x.field j, u)' makes of it. -/
structure App1 (x x' : FA) (j : Nat) (a' : Option Addr) (cap' : Nat) (u : Value) : Prop where
  L : x'.L = upd x.L j (x.L j + 1)
  C : x'.C = upd x.C j cap'
  a : x'.a = upd x.a j a'
  F : x'.F = x.F
  s4 : x'.s4 = x.s4
  s5 : x'.s5 = x.s5
  f : ∀ k, IsTab k → k ≠ j → x'.f k = x.f k
  fj : ∀ k, k < x.L j + 1 → x'.f j k = upd (x.f j) (x.L j) u k

/-- the append to table j, then the store into the search's field j. -/
theorem FM.app {b : Nat} {a' : Option Addr} {cap' : Nat} {u : Value} (h : FM W tag w bs x) (hA : Ext (fun _ => False) w wA) (hb : wA.heap.size = b) (j : Nat) (hj : IsTab j)
    (ho : Own (fun k => Tg W tag j k ∨ k = b) (fty j) wq a' (x.L j + 1) cap' (upd (x.f j) (x.L j) u)) (hx : Ext (Tg W tag j) wA wq) :
    wq.cell? ⟨bs, j, none⟩ = some (.slice (x.a j) (x.L j) (x.C j)) ∧ wq.frozen? ⟨bs, j, none⟩ = false ∧
      ∀ x', App1 x x' j a' cap' u → (∀ p, p < x'.L 0 → Rd (Tg W tag 12) w (x'.R p) (x'.d p) (fun i => .int .i64 (x'.N p i : Int))) →
        FM W (upd tag b j) (wq.setCell ⟨bs, j, none⟩ (.slice a' (x.L j + 1) cap')) bs x' ∧ Stp W tag w (upd tag b j) (wq.setCell ⟨bs, j, none⟩ (.slice a' (x.L j + 1) cap')) := by
  have hws := hA.size
  have hsz := h.siz
  have hjl := hj.lt
  have htg : ∀ k, k < w.heap.size → upd tag b j k = tag k := fun k hk => upd_other _ _ _ _ (by omega)
  have hx1 : Ext (Tg W tag j) w wq := ((Ext.refl (Tg W tag j) w).trans hA (fun _ _ h => h.elim)).trans hx (fun _ _ h => h)
  have ne1 : ∀ {t : Nat}, t ≠ j → ∀ k, Tg W tag t k → ¬ Tg W tag j k := fun hne k hk e => by have := hk.1; have := e.1; omega
  have hstr1 : Own (Tg W (upd tag b j) 13) 66 wq (some ⟨bs, 0, none⟩) 12 12 x.v := h.str.tagged hx1 (ne1 (by omega)) htg
  obtain ⟨g, eg, hS, hlt, hc, hf, hst⟩ := hstr1.at j (by omega)
  obtain rfl : bs = g := by simpa using eg
  refine ⟨by rw [hc]; simp [FA.v, hj.n4, hj.n5], hf, fun x' hs hr => ?_⟩
  have hx2 : Ext (fun k => k = bs) wq (wq.setCell ⟨bs, j, none⟩ (.slice a' (x.L j + 1) cap')) := (Ext.refl (fun k => k = bs) _).setCell (fun _ => rfl) _
  have hx3 : Ext (fun k => Tg W tag j k ∨ k = bs) w (wq.setCell ⟨bs, j, none⟩ (.slice a' (x.L j + 1) cap')) := (hx1.mono (fun _ _ h => .inl h)).trans hx2 (fun _ _ h => .inr h)
  have hbs : tag bs = 13 := (h.fld 0 (by omega)).2.2.1
  have hbW := (h.fld 0 (by omega)).2.2.2.1
  have ne3 : ∀ {t : Nat}, t ≠ j → t ≠ 13 → ∀ k, Tg W tag t k → ¬ (Tg W tag j k ∨ k = bs) := by
    rintro t h1 h2 k hk (e | e)
    · exact ne1 h1 k hk e
    · subst e; have := hk.1; omega
  refine ⟨⟨(hst _).congr (fun k _ => ?_), fun k hk => ?_, ?_, fun p hp => (hr p hp).tagged hx3 (ne3 (by omega) (by omega)) htg, Nat.le_trans h.siz hx3.size⟩, hx3.mono (fun k hk e => ?_), htg⟩
  · by_cases e : k = j
    · subst e; rw [upd_same]; simp [FA.v, hs.L, hs.C, hs.a, hj.n4, hj.n5, upd_same]
    · rw [upd_other _ _ _ _ e]; simp [FA.v, hs.L, hs.C, hs.a, hs.s4, hs.s5, upd_other _ _ _ _ e]
  · by_cases e : k = j
    · subst e
      rw [hs.a, hs.L, hs.C, upd_same, upd_same, upd_same]
      have ho1 : Own (Tg W (upd tag b k) k) (fty k) wq a' (x.L k + 1) cap' (x'.f k) := (ho.mono (fun i hi => by
        rcases hi with hi | rfl
        · by_cases e : i = b
          · subst e; exact ⟨upd_same _ _ _, by omega⟩
          · exact ⟨by rw [upd_other _ _ _ _ e]; exact hi.1, hi.2⟩
        · exact ⟨upd_same _ _ _, by omega⟩)).congr (fun i hi => (hs.fj i hi).symm)
      exact ho1.ext hx2 (fun i hi e => by subst e; have := hi.1; rw [htg _ (h.fld 0 (by omega)).2.2.2.2] at this; omega)
    · rw [hs.a, hs.L, hs.C, upd_other _ _ _ _ e, upd_other _ _ _ _ e, upd_other _ _ _ _ e, hs.f k hk e]
      exact (h.tab k hk).tagged hx3 (ne3 e (by have := hk.lt; omega)) htg
  · have e6 : (6 : Nat) ≠ j := Ne.symm hj.n6
    rw [hs.a, hs.L, hs.C, hs.F, upd_other _ _ _ _ e6, upd_other _ _ _ _ e6, upd_other _ _ _ _ e6]
    exact h.fo.tagged hx3 (ne3 e6 (by omega)) htg
  · rcases e with e | rfl
    · exact ⟨e.2, by have := e.1; omega⟩
    · exact ⟨hbW, by omega⟩

/-- behind 's.adj[q] = append(s.adj[q], m)', the row full: the append, then the store. -/
theorem FM.rowApp {b : Nat} {a' : Option Addr} {cap' q m : Nat} (h : FM W tag w bs x) (hq : q < x.L 0) (hA : Ext (fun _ => False) w wq) (hb : w.heap.size ≤ b)
    (ho : Own (fun k => k = b) 3 wq a' (x.d q + 1) cap' (upd (fun i => .int .i64 (x.N q i : Int)) (x.d q) (.int .i64 (m : Int)))) :
    ∃ g, x.a 0 = some ⟨g, 0, none⟩ ∧ wq.cell? ⟨g, q, none⟩ = some (.slice (x.R q) (x.d q) (x.rc q)) ∧ wq.frozen? ⟨g, q, none⟩ = false ∧
      FM W (upd tag b 12) (wq.setCell ⟨g, q, none⟩ (.slice a' (x.d q + 1) cap')) bs { x with R := upd x.R q a', d := upd x.d q (x.d q + 1), rc := upd x.rc q cap', N := upd x.N q (upd (x.N q) (x.d q) m) } ∧
      Stp W tag w (upd tag b 12) (wq.setCell ⟨g, q, none⟩ (.slice a' (x.d q + 1) cap')) := by
  have hsz := h.siz
  have htg : ∀ k, k < w.heap.size → upd tag b 12 k = tag k := fun k hk => upd_other _ _ _ _ (by omega)
  have h1 : FM W (upd tag b 12) wq bs x := h.later hA (fun _ _ _ h => h) htg
  have T0 : IsTab 0 := ⟨by omega, by omega, by omega, by omega⟩
  obtain ⟨g, eg, hS, hlt, hc, hf, hst⟩ := (h1.tab 0 T0).at q hq
  have hx2 : Ext (fun k => k = g) wq (wq.setCell ⟨g, q, none⟩ (.slice a' (x.d q + 1) cap')) := (Ext.refl (fun k => k = g) _).setCell (fun _ => rfl) _
  have hgt := hS.1
  have ne : ∀ {t : Nat}, t ≠ 0 → ∀ k, Tg W (upd tag b 12) t k → ¬ k = g := fun hne k hk e => by subst e; have := hk.1; omega
  obtain ⟨g0, eg0, hS0, hlt0, _⟩ := (h.tab 0 T0).at q hq
  obtain rfl : g = g0 := by rw [eg] at eg0; simpa using eg0
  refine ⟨g, eg, hc, hf, ⟨(h1.str.ext hx2 (ne (by omega))).congr (fun k _ => rfl), fun k hk => ?_, h1.fo.tagged hx2 (ne (by omega)) (fun _ _ => rfl), fun p hp => ?_, Nat.le_trans h1.siz hx2.size⟩, (hA.mono (fun _ _ h => h.elim)).trans hx2 (fun k hk e => by subst e; exact ⟨hS.2, by rw [htg _ hlt0] at hgt; omega⟩), htg⟩
  · by_cases e : k = 0
    · subst e
      show Own _ _ _ (x.a 0) _ _ _
      rw [eg]
      refine (hst _).congr (fun p _ => ?_)
      show upd (x.f 0) q _ p = .slice (upd x.R q a' p) (upd x.d q (x.d q + 1) p) (upd x.rc q cap' p)
      by_cases e : p = q
      · subst e; rw [upd_same, upd_same, upd_same, upd_same]
      · rw [upd_other _ _ _ _ e, upd_other _ _ _ _ e, upd_other _ _ _ _ e, upd_other _ _ _ _ e]; rfl
    · refine ((h1.tab k hk).ext hx2 (ne e)).congr (fun i _ => ?_)
      match k, e with
      | 1, _ => rfl
      | 2, _ => rfl
      | 3, _ => rfl
      | 4, _ => rfl
      | 5, _ => rfl
      | 6, _ => rfl
      | 7, _ => rfl
      | 8, _ => rfl
      | 9, _ => rfl
      | 10, _ => rfl
      | k + 11, _ => rfl
  · show Rd (Tg W (upd tag b 12) 12) _ (upd x.R q a' p) (upd x.d q (x.d q + 1) p) (fun i => .int .i64 ((upd x.N q (upd (x.N q) (x.d q) m) p i : Nat) : Int))
    by_cases e : p = q
    · subst e
      rw [upd_same, upd_same, upd_same]
      refine Rd.ext ((ho.rd.mono (fun k hk => ⟨by rw [hk, upd_same], by omega⟩)).congr (fun i _ => upd_map (fun n : Nat => Value.int .i64 (n : Int)) (x.N p) (x.d p) m i)) hx2 (ne (by omega))
    · rw [upd_other _ _ _ _ e, upd_other _ _ _ _ e, upd_other _ _ _ _ e]
      exact (h1.rows p hp).ext hx2 (ne (by omega))

/-- a table of one own block: read at i. -/
theorem FM.row (h : FM W tag w bs x) (p : Nat) (hp : p < x.L 0) : ∃ g, x.a 0 = some ⟨g, 0, none⟩ ∧ w.cell? ⟨g, p, none⟩ = some (.slice (x.R p) (x.d p) (x.rc p)) ∧ Rd (Tg W tag 12) w (x.R p) (x.d p) (fun i => .int .i64 (x.N p i : Int)) := by
  obtain ⟨g, eg, hS, hlt, hc, hf, hst⟩ := (h.tab 0 ⟨by omega, by omega, by omega, by omega⟩).at p hp
  exact ⟨g, eg, hc, h.rows p hp⟩

/-- the made row's blocks become rows. -/
theorem FM.retag (h : FM W tag w bs x) : FM W (fun k => if tag k = 15 then 12 else tag k) w bs x := by
  have hm : ∀ {t : Nat}, t ≠ 15 → ∀ k, Tg W tag t k → Tg W (fun k => if tag k = 15 then 12 else tag k) t k := fun ht k hk => ⟨by have := hk.1; show (if tag k = 15 then 12 else tag k) = _; rw [if_neg (by omega)]; exact this, hk.2⟩
  refine ⟨h.str.mono (hm (by omega)), fun j hj => (h.tab j hj).mono (hm (by have := hj.lt; omega)), ?_, fun p hp => (h.rows p hp).mono (hm (by omega)), h.siz⟩
  rcases h.fo with o | ⟨g, cur, e, hS, r⟩
  · exact .inl o
  · exact .inr ⟨g, cur, e, hm (by omega) g hS, r⟩

end

/-- 'append(s, x)', the slice full: in a new block. -/
theorem run_appFull {P : Program} (w : World) (t ty e : TypeId) (z : Value) (bytes : Nat) (h1 : P.underlying t = some (.slice e)) (hinfo : (P.info? e).map (fun i => (i.zero, i.size, i.bytes)) = some (some z, 1, bytes)) (hz : z.cells = #[z])
    (S : Nat → Prop) (a : Option Addr) (n : Nat) (f : Nat → Value) (hr0 : Rd S w a n f) (ad : Addr) (c : Nat) (u : Value) (hu : w.cell? ad = some u) (hu1 : u.oneCell' = true)
    (hb : (n + 1) * bytes ≤ 140737488355328) (hn : n + 1 ≤ 9223372036854775807) :
    ∃ a' cap' w', (Builtin.append_ #[t, t] ty #[.slice a n n, .slice (some ad) 1 c]).run P w = .ok (.slice a' (n + 1) cap') w' ∧
      Own (fun k => k = w.heap.size) e w' a' (n + 1) cap' (upd f n u) ∧ Ext (fun _ => False) w w' := by
  obtain ⟨i, hi, hz0, hz1, hz2⟩ := info_parts hinfo
  subst hz2
  have hnews : ∀ (j : Nat) (v : Value), ([u] : List Value)[j]? = some v → w.cell? (ad.add j) = some v := by
    intro j v hj
    match j, hj with
    | 0, hj => simp at hj; subst hj; simpa [Addr.add] using hu
  have hl1 : ([u] : List Value).length = 1 * i.size := by simp [hz1]
  have fresh : ∀ (xs : List Value) (old : Nat), xs.length = n → (∀ j, j < n → xs[j]? = some (f j)) →
      Own (fun k => k = w.heap.size) e (w.drew.alloc (.cells (xs.toArray ++ ([u] : List Value).toArray ++ Builtin.zeroCells z.cells (grownCap w (n + 1) old e - (n + 1))) e))
        (some ⟨w.heap.size, 0, none⟩) (n + 1) (grownCap w (n + 1) old e) (upd f n u) := by
    intro xs old hxl hxs
    have hge := grownCap_ge w (n + 1) old e
    refine .inr ⟨w.heap.size, _, rfl, rfl, heap_alloc_new w.drew _, hge, grownCap_le_maxLen w (n + 1) old e (by unfold maxLen; omega), ?_, ?_⟩
    · simp only [Array.size_append, List.size_toArray, size_zeroCells, hz, hxl, List.length_cons, List.length_nil]
      simp
      omega
    · intro j hj
      by_cases hjn : j = n
      · subst hjn
        rw [upd_same, Array.getElem?_append_left (by simp [hxl]), Array.getElem?_append_right (by simp [hxl])]
        simp [hxl]
      · rw [upd_other _ _ _ _ hjn, Array.getElem?_append_left (by simp [hxl]; omega), Array.getElem?_append_left (by simp [hxl]; omega)]
        simpa using hxs j (by omega)
  cases a with
  | none =>
    obtain rfl : n = 0 := by
      rcases Nat.eq_zero_or_pos n with h0 | h0
      · exact h0
      · obtain ⟨_, _, e, _⟩ := hr0 0 h0; cases e
    have hr := run_append_nil (P := P) w t ty e i z h1 hi hz0 ad 1 c [u] hl1 hnews (by omega) (by omega) (by omega)
    refine ⟨_, _, _, hr, ?_, ((Ext.refl _ _).drew).alloc _⟩
    have := fresh [] 0 rfl (fun j hj => absurd hj (Nat.not_lt_zero j))
    simpa using this
  | some ao =>
    have hlo : ((List.range n).map f).length = n * i.size := by simp [hz1]
    have holds : ∀ j v, ((List.range n).map f)[j]? = some v → w.cell? (ao.add j) = some v := by
      intro j v hv
      have hj : j < n := by
        have := (List.getElem?_eq_some_iff.1 hv).1
        simpa using this
      simp [hj] at hv
      subst hv
      obtain ⟨b, off, ea, _, hc⟩ := hr0 j hj
      obtain rfl : ao = ⟨b, off, none⟩ := by simpa using ea
      rw [Addr.add_lit]; exact hc
    have hr := run_append_grow (P := P) w t ty e i z h1 hi hz0 ao n n ((List.range n).map f) hlo holds ad 1 c [u] hl1 hnews (by omega) (by omega) (growslice_fits (by omega) hb)
    refine ⟨_, _, _, hr, ?_, ((Ext.refl _ _).drew).alloc _⟩
    exact fresh ((List.range n).map f) n (by simp) (fun j hj => by simp [hj])

end Go.Proofs.Qxb6601557a
