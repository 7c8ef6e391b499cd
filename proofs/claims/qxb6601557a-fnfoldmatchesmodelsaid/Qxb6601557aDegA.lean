/-
  byDegree: the states of its loops. By an AI agent.
-/
import Derived.Test.Qxb6601557aKey
import Derived.Test.Qxb6601557aCount
namespace Go.Proofs.Qxb6601557a
set_option linter.unusedVariables false
open Go.RowKit

theorem Own.head_lt {S : Nat → Prop} {e : TypeId} {w : World} {g n cap : Nat} {f : Nat → Value} (h : Own S e w (some ⟨g, 0, none⟩) n cap f) : g < w.heap.size := by
  rcases h with ⟨h, _⟩ | ⟨g', cur, h, _, hg, _⟩
  · cases h
  · have e : g = g' := by injection h with h; injection h
    rw [e]; exact (Array.getElem?_eq_some_iff.1 hg).1

/-- what byDegree is given: the search's block, its degrees, the places. -/
structure DegIn (w : World) (bs : Nat) (S : Nat → Prop) (v : Nat → Value) (n : Nat) (dg : Nat → Int) (ap : Option Addr) (np : Nat) (P : Nat → Nat) : Prop where
  str : Own (fun k => k = bs) 66 w (some ⟨bs, 0, none⟩) 12 12 v
  deg : ∃ ad cd, v 2 = .slice ad n cd ∧ Rd S w ad n (fun j => .int .i64 (dg j))
  pl : Rd S w ap np (fun j => .int .i64 (P j : Int))
  out : ∀ k, S k → k ≠ bs
  ok : ∀ i, i < np → P i < n ∧ 0 ≤ dg (P i) ∧ dg (P i) ≤ n

/-- the three boxes. -/
structure Boxes (w wr : World) (bs top : Nat) : Prop where
  ext : Ext (fun _ => False) w wr
  b0 : Own (fun k => k = w.heap.size) 63 wr (some ⟨w.heap.size, 0, none⟩) 1 1 (fun _ => .pointer (some ⟨bs, 0, none⟩))
  b1 : Own (fun k => k = w.heap.size + 1) 4 wr (some ⟨w.heap.size + 1, 0, none⟩) 1 1 (fun _ => .bool true)
  b2 : Own (fun k => k = w.heap.size + 1 + 1) 3 wr (some ⟨w.heap.size + 1 + 1, 0, none⟩) 1 1 (fun _ => .int .i64 (top : Int))
  size : w.heap.size + 3 ≤ wr.heap.size

theorem Boxes.later {w wr wq : World} {bs top : Nat} (h : Boxes w wr bs top) (hx : Ext (fun k => w.heap.size + 3 ≤ k) wr wq) : Boxes w wq bs top :=
  ⟨h.ext.trans hx (fun i hi ht => by omega), h.b0.ext hx (fun k hk => by omega), h.b1.ext hx (fun k hk => by omega), h.b2.ext hx (fun k hk => by omega), Nat.le_trans h.size hx.size⟩

theorem Boxes.key {w wr : World} {bs top : Nat} {S : Nat → Prop} {v : Nat → Value} {n : Nat} {dg : Nat → Int} {ap : Option Addr} {np : Nat} {P : Nat → Nat} (h : Boxes w wr bs top) (hi : DegIn w bs S v n dg ap np P) :
    KeyIn wr bs w.heap.size (w.heap.size + 1) (w.heap.size + 1 + 1) S n dg top := by
  obtain ⟨ad, cd, hv, hrd⟩ := hi.deg
  refine ⟨⟨ad, cd, ?_, hrd.ext h.ext (fun _ _ h => h)⟩, ?_, ?_, ?_⟩
  · obtain ⟨g, _, hS, _, hc, _⟩ := (hi.str.ext h.ext (fun _ _ h => h)).at 2 (by omega)
    obtain rfl : g = bs := hS
    rw [hc, hv]
  · obtain ⟨g, _, hS, _, hc, _⟩ := h.b0.at 0 (by omega)
    obtain rfl : g = w.heap.size := hS
    exact hc
  · obtain ⟨g, _, hS, _, hc, _⟩ := h.b1.at 0 (by omega)
    obtain rfl : g = w.heap.size + 1 := hS
    exact hc
  · obtain ⟨g, _, hS, _, hc, _⟩ := h.b2.at 0 (by omega)
    obtain rfl : g = w.heap.size + 1 + 1 := hS
    exact hc

theorem Boxes.start (w : World) (bs : Nat) : Boxes w (((w.alloc (.cells #[.pointer (some ⟨bs, 0, none⟩)] 63)).alloc (.cells #[.bool true] 4)).alloc (.cells #[.int .i64 0] 3)) bs 0 := by
  have s1 : (w.alloc (.cells #[.pointer (some ⟨bs, 0, none⟩)] 63)).heap.size = w.heap.size + 1 := by simp
  have s2 : ((w.alloc (.cells #[.pointer (some ⟨bs, 0, none⟩)] 63)).alloc (.cells #[.bool true] 4)).heap.size = w.heap.size + 1 + 1 := by simp
  refine ⟨(((Ext.refl _ _).alloc _).alloc _).alloc _, ((Own.box (fun k => k = w.heap.size) w _ 63 rfl).alloc _).alloc _, ?_, ?_, by simp⟩
  · have := (Own.box (fun k => k = w.heap.size + 1) (w.alloc (.cells #[.pointer (some ⟨bs, 0, none⟩)] 63)) (.bool true) 4 s1).alloc (.cells #[.int .i64 0] 3)
    rw [s1] at this
    exact this
  · have := Own.box (fun k => k = w.heap.size + 1 + 1) ((w.alloc (.cells #[.pointer (some ⟨bs, 0, none⟩)] 63)).alloc (.cells #[.bool true] 4)) (.int .i64 0) 3 s2
    rw [s2] at this
    exact this

theorem Boxes.raise {w wr : World} {bs top t : Nat} (h : Boxes w wr bs top) : Boxes w (wr.setCell ⟨w.heap.size + 1 + 1, 0, none⟩ (.int .i64 (t : Int))) bs t := by
  obtain ⟨g, _, hS, _, hc, _, hst⟩ := h.b2.at 0 (by omega)
  obtain rfl : g = w.heap.size + 1 + 1 := hS
  have hx : Ext (fun k => k = w.heap.size + 1 + 1) wr (wr.setCell ⟨w.heap.size + 1 + 1, 0, none⟩ (.int .i64 (t : Int))) := (Ext.refl (fun k => k = w.heap.size + 1 + 1) _).setCell (fun _ => rfl) _
  refine ⟨h.ext.trans hx (fun i hi ht => by omega), h.b0.ext hx (fun k hk => by omega), h.b1.ext hx (fun k hk => by omega), (hst _).congr ?_, by rw [show (wr.setCell ⟨w.heap.size + 1 + 1, 0, none⟩ (.int .i64 (t : Int))).heap.size = wr.heap.size by simp [World.setCell]]; exact h.size⟩
  intro j hj
  obtain rfl : j = 0 := by omega
  rw [upd_same]

theorem Boxes.drew {w wr : World} {bs top : Nat} (h : Boxes w wr bs top) : Boxes w wr.drew bs top := ⟨h.ext.drew, h.b0.drew, h.b1.drew, h.b2.drew, h.size⟩
theorem Boxes.drewN {w wr : World} {bs top : Nat} (h : Boxes w wr bs top) (k : Nat) : Boxes w (wr.drewN k) bs top := ⟨h.ext.drewN k, h.b0.drewN k, h.b1.drewN k, h.b2.drewN k, h.size⟩

/-- t is the greatest of the first m degrees, or 0. -/
structure TopIs (D : Nat → Int) (m t : Nat) : Prop where
  le : ∀ i, i < m → D i ≤ t
  at_ : t = 0 ∨ ∃ i, i < m ∧ D i = t

theorem TopIs.succ {D : Nat → Int} {m t : Nat} (h : TopIs D m t) {r : Nat} (hr : D m = r) : TopIs D (m + 1) (max t r) := by
  refine ⟨fun i hi => ?_, ?_⟩
  · by_cases e : i = m
    · subst e; omega
    · have := h.le i (by omega); omega
  · rcases Nat.le_total t r with hle | hle
    · exact .inr ⟨m, by omega, by omega⟩
    · rcases h.at_ with h0 | ⟨i, hi, he⟩
      · exact .inl (by omega)
      · exact .inr ⟨i, by omega, by omega⟩

/-- starts while the keys are counted. -/
def stA (K : Nat → Nat) (m j : Nat) : Nat := cnt m (fun i => decide (K i + 1 = j))
/-- starts while the counts are summed. -/
def stB (np : Nat) (K : Nat → Nat) (k j : Nat) : Nat := if j < k then cnt np (fun i => decide (K i < j)) else cnt np (fun i => decide (K i + 1 = j))
/-- starts while the places are laid. -/
def stC (np : Nat) (K : Nat → Nat) (m j : Nat) : Nat := cnt np (fun i => decide (K i < j)) + cnt m (fun i => decide (K i = j))

theorem stA_succ (K : Nat → Nat) (m j : Nat) : stA K (m + 1) j = if j = K m + 1 then stA K m j + 1 else stA K m j := by
  unfold stA
  rw [cnt_succ]
  by_cases h : j = K m + 1
  · simp [h]
  · rw [if_neg h, if_neg (by simp; omega)]; rfl

theorem stB_one (np : Nat) (K : Nat → Nat) (j : Nat) : stB np K 1 j = stA K np j := by
  unfold stB stA
  by_cases h : j < 1
  · obtain rfl : j = 0 := by omega
    rw [if_pos h, cnt_none (fun i _ => by simp), cnt_none (fun i _ => by simp)]
  · rw [if_neg h]

theorem stB_succ (np : Nat) (K : Nat → Nat) (k j : Nat) (hk : 1 ≤ k) : stB np K (k + 1) j = if j = k then stB np K k k + stB np K k (k - 1) else stB np K k j := by
  unfold stB
  by_cases h : j = k
  · subst h
    rw [if_pos rfl, if_pos (by omega), if_neg (by omega), if_pos (by omega), Nat.add_comm]
    exact cnt_or (fun i _ => by rw [Bool.eq_iff_iff]; simp; omega) (fun i _ h1 h2 => by simp at h1 h2; omega)
  · rw [if_neg h]
    by_cases h1 : j < k
    · rw [if_pos h1, if_pos (by omega)]
    · rw [if_neg h1, if_neg (by omega)]

theorem stB_last (np : Nat) (K : Nat → Nat) (k j : Nat) (h : j < k) : stB np K k j = stC np K 0 j := by
  unfold stB stC
  rw [if_pos h, cnt_zero, Nat.add_zero]

theorem stC_succ (np : Nat) (K : Nat → Nat) (m j : Nat) : stC np K (m + 1) j = if j = K m then stC np K m j + 1 else stC np K m j := by
  unfold stC
  rw [cnt_succ]
  by_cases h : j = K m
  · subst h; simp; omega
  · rw [if_neg h, if_neg (by simp; omega)]; omega

theorem stC_rk (np : Nat) (K : Nat → Nat) (m : Nat) : stC np K m (K m) = rk np K m := rfl

/-- the first m places lie where the sort puts them. -/
def LaidTo (np : Nat) (K P : Nat → Nat) (Q : Nat → Int) (m : Nat) : Prop := ∀ i, i < m → Q (rk np K i) = P i

theorem LaidTo.succ {np : Nat} {K P : Nat → Nat} {Q : Nat → Int} {m : Nat} (h : LaidTo np K P Q m) (hm : m < np) : LaidTo np K P (upd Q (rk np K m) (P m : Int)) (m + 1) := by
  intro i hi
  by_cases e : i = m
  · subst e; rw [upd_same]
  · rw [upd_other _ _ _ _ (fun h' => e (rk_inj (by omega) hm h'))]
    exact h i (by omega)

/-- the keys. -/
def keyOf (t : Nat) (dg : Nat → Int) (P : Nat → Nat) (i : Nat) : Nat := t - (dg (P i)).toNat

/-- the boxes and 'starts' in block g. -/
structure Starts (w wr : World) (bs t g : Nat) (f : Nat → Nat) : Prop where
  bx : Boxes w wr bs t
  st : Own (fun k => k = g) 3 wr (some ⟨g, 0, none⟩) (t + 2) (t + 2) (fun j => .int .i64 (f j : Int))
  lo : w.heap.size + 3 ≤ g

theorem Starts.drewN {w wr : World} {bs t g : Nat} {f : Nat → Nat} (h : Starts w wr bs t g f) (k : Nat) : Starts w (wr.drewN k) bs t g f := ⟨h.bx.drewN k, h.st.drewN k, h.lo⟩
theorem Starts.drew {w wr : World} {bs t g : Nat} {f : Nat → Nat} (h : Starts w wr bs t g f) : Starts w wr.drew bs t g f := ⟨h.bx.drew, h.st.drew, h.lo⟩

theorem Starts.at {w wr : World} {bs t g : Nat} {f : Nat → Nat} (h : Starts w wr bs t g f) (j : Nat) (hj : j < t + 2) : wr.cell? ⟨g, j, none⟩ = some (.int .i64 (f j : Int)) ∧ wr.frozen? ⟨g, j, none⟩ = false := by
  obtain ⟨_, _, hS, _, hc, hf, _⟩ := h.st.at j hj
  obtain rfl := hS
  exact ⟨hc, hf⟩

theorem Starts.put {w wr : World} {bs t g : Nat} {f f' : Nat → Nat} (h : Starts w wr bs t g f) (j : Nat) (hj : j < t + 2) (x : Nat) (hf' : ∀ i, f' i = if i = j then x else f i) :
    Starts w (wr.setCell ⟨g, j, none⟩ (.int .i64 (x : Int))) bs t g f' := by
  obtain ⟨g', _, hS, _, _, _, hst⟩ := h.st.at j hj
  obtain rfl : g' = g := hS
  refine ⟨h.bx.later ((Ext.refl (fun k => w.heap.size + 3 ≤ k) _).setCell (fun _ => h.lo) _), (hst _).congr ?_, h.lo⟩
  intro i hi
  rw [hf' i]
  unfold upd
  split <;> rfl

/-- 'order' in block q besides. -/
structure Order (w wr : World) (bs t g q np : Nat) (f : Nat → Nat) (Q : Nat → Int) : Prop where
  s : Starts w wr bs t g f
  or_ : Own (fun k => k = q) 3 wr (some ⟨q, 0, none⟩) np np (fun j => .int .i64 (Q j))
  lt : g < q

theorem Order.drewN {w wr : World} {bs t g q np : Nat} {f : Nat → Nat} {Q : Nat → Int} (h : Order w wr bs t g q np f Q) (k : Nat) : Order w (wr.drewN k) bs t g q np f Q := ⟨h.s.drewN k, h.or_.drewN k, h.lt⟩

theorem Order.at {w wr : World} {bs t g q np : Nat} {f : Nat → Nat} {Q : Nat → Int} (h : Order w wr bs t g q np f Q) (j : Nat) (hj : j < np) : wr.frozen? ⟨q, j, none⟩ = false ∧ wr.cell? ⟨q, j, none⟩ = some (.int .i64 (Q j)) := by
  obtain ⟨_, _, hS, _, hc, hf, _⟩ := h.or_.at j hj
  obtain rfl := hS
  exact ⟨hf, hc⟩

theorem Order.put {w wr : World} {bs t g q np : Nat} {f : Nat → Nat} {Q : Nat → Int} (h : Order w wr bs t g q np f Q) (j : Nat) (hj : j < np) (x : Int) :
    Order w (wr.setCell ⟨q, j, none⟩ (.int .i64 x)) bs t g q np f (upd Q j x) := by
  obtain ⟨q', _, hS, _, _, _, hst⟩ := h.or_.at j hj
  obtain rfl : q' = q := hS
  have hlo := h.s.lo
  have hlt := h.lt
  have hx : Ext (fun k => k = q') wr (wr.setCell ⟨q', j, none⟩ (.int .i64 x)) := (Ext.refl (fun k => k = q') _).setCell (fun _ => rfl) _
  refine ⟨⟨h.s.bx.later (hx.mono (fun i _ e => by omega)), h.s.st.ext hx (fun k hk => by omega), h.s.lo⟩, (hst _).congr ?_, h.lt⟩
  intro i hi
  exact upd_map (Value.int .i64) Q j x i

theorem Order.putS {w wr : World} {bs t g q np : Nat} {f f' : Nat → Nat} {Q : Nat → Int} (h : Order w wr bs t g q np f Q) (j : Nat) (hj : j < t + 2) (x : Nat) (hf' : ∀ i, f' i = if i = j then x else f i) :
    Order w (wr.setCell ⟨g, j, none⟩ (.int .i64 (x : Int))) bs t g q np f' Q := by
  have hlt := h.lt
  exact ⟨h.s.put j hj x hf', h.or_.ext ((Ext.refl (fun k => k = g) _).setCell (fun _ => rfl) _) (fun k hk => by omega), h.lt⟩

/-- what byDegree leaves. -/
structure DegOut (w w' : World) (bs : Nat) (v : Nat → Value) (q : Nat) (np : Nat) (dg : Nat → Int) (P : Nat → Nat) (steps : Int) (t : Nat) (Q : Nat → Int) : Prop where
  top : TopIs (fun i => dg (P i)) np t
  laid : LaidTo np (keyOf t dg P) P Q np
  own : Own (fun k => k = q) 3 w' (some ⟨q, 0, none⟩) np np (fun j => .int .i64 (Q j))
  lo : w.heap.size ≤ q
  ext : Ext (fun k => k = bs) w w'
  str : Own (fun k => k = bs) 66 w' (some ⟨bs, 0, none⟩) 12 12 (upd v 4 (.int .i64 (wrap64 (steps + (2 * np + t)))))

end Go.Proofs.Qxb6601557a
