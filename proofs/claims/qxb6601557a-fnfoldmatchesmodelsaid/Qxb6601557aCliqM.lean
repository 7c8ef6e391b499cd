/-
  The memory of 'cliques': the cliques' rows, the counts, the list of those met. By an AI agent.
-/
import Derived.Test.Qxb6601557aDegA
import Derived.Test.Qxb6601557aClique
namespace Go.Proofs.Qxb6601557a
set_option linter.unusedVariables false
open Go.RowKit

theorem Own.mono_lt {S T : Nat → Prop} {e : TypeId} {w : World} {a : Option Addr} {n cap : Nat} {f : Nat → Value} (h : Own S e w a n cap f) (hST : ∀ k, k < w.heap.size → S k → T k) : Own T e w a n cap f := by
  rcases h with h | ⟨g, cur, rfl, hS, hg, r⟩
  · exact .inl h
  · exact .inr ⟨g, cur, rfl, hST g (Array.getElem?_eq_some_iff.1 hg).1 hS, hg, r⟩

/-- block k is of tag t, and made behind w. -/
def Tg (w : World) (tag : Nat → Nat) (t : Nat) : Nat → Prop := fun k => tag k = t ∧ w.heap.size ≤ k

theorem Tg.upd {w : World} {tag : Nat → Nat} {t t' b k : Nat} (h : Tg w tag t k) (hk : k < b) : Tg w (upd tag b t') t k := ⟨by rw [upd_other _ _ _ _ (by omega)]; exact h.1, h.2⟩

/-- cliques (the outer row has nO of them, the counts nN), counts, met. -/
structure CQ (w1 wr : World) (tag : Nat → Nat) (aC : Option Addr) (nO capC : Nat) (R : Nat → Option Addr) (sz cp : Nat → Nat) (el : Nat → Nat → Nat) (aN : Option Addr) (nN capN : Nat) (cn : Nat → Nat) (aM : Option Addr) (nm capM : Nat) (mt : Nat → Nat) : Prop where
  outer : Own (Tg w1 tag 3) 24 wr aC nO capC (fun c => .slice (R c) (sz c) (cp c))
  rows : ∀ c, c < nO → Own (Tg w1 tag (4 + c)) 3 wr (R c) (sz c) (cp c) (fun i => .int .i64 (el c i : Int))
  cnts : Own (Tg w1 tag 2) 3 wr aN nN capN (fun c => .int .i64 (cn c : Int))
  met : Own (Tg w1 tag 1) 3 wr aM nm capM (fun j => .int .i64 (mt j : Int))
  size : w1.heap.size ≤ wr.heap.size

section
variable {w1 wr wq W : World} {tag : Nat → Nat} {aC : Option Addr} {nO capC : Nat} {R : Nat → Option Addr} {sz cp : Nat → Nat} {el : Nat → Nat → Nat} {aN : Option Addr} {nN capN : Nat} {cn : Nat → Nat} {aM : Option Addr} {nm capM : Nat} {mt : Nat → Nat}

theorem CQ.ext {T : Nat → Prop} (h : CQ w1 wr tag aC nO capC R sz cp el aN nN capN cn aM nm capM mt) (hx : Ext T wr wq) (hT : ∀ k, w1.heap.size ≤ k → ¬ T k) : CQ w1 wq tag aC nO capC R sz cp el aN nN capN cn aM nm capM mt :=
  ⟨h.outer.ext hx (fun k hk => hT k hk.2), fun c hc => (h.rows c hc).ext hx (fun k hk => hT k hk.2), h.cnts.ext hx (fun k hk => hT k hk.2), h.met.ext hx (fun k hk => hT k hk.2), Nat.le_trans h.size hx.size⟩

/-- one count: read, and written. -/
theorem CQ.cntAt (h : CQ w1 wr tag aC nO capC R sz cp el aN nN capN cn aM nm capM mt) (c : Nat) (hc : c < nN) :
    ∃ g, aN = some ⟨g, 0, none⟩ ∧ w1.heap.size ≤ g ∧ wr.cell? ⟨g, c, none⟩ = some (.int .i64 (cn c : Int)) ∧ wr.frozen? ⟨g, c, none⟩ = false ∧
      ∀ x : Nat, CQ w1 (wr.setCell ⟨g, c, none⟩ (.int .i64 (x : Int))) tag aC nO capC R sz cp el aN nN capN (upd cn c x) aM nm capM mt := by
  obtain ⟨g, rfl, hS, hlt, hce, hf, hst⟩ := h.cnts.at c hc
  refine ⟨g, rfl, hS.2, hce, hf, fun x => ?_⟩
  have hx : Ext (fun k => k = g) wr (wr.setCell ⟨g, c, none⟩ (.int .i64 (x : Int))) := (Ext.refl (fun k => k = g) _).setCell (fun _ => rfl) _
  refine ⟨h.outer.ext hx (fun k hk e => ?_), fun c' hc' => (h.rows c' hc').ext hx (fun k hk e => ?_), (hst _).congr (fun j _ => upd_map (fun n : Nat => Value.int .i64 (n : Int)) cn c x j), h.met.ext hx (fun k hk e => ?_), Nat.le_trans h.size hx.size⟩
  · have := hk.1; have := hS.1; subst e; omega
  · have := hk.1; have := hS.1; subst e; omega
  · have := hk.1; have := hS.1; subst e; omega

theorem CQ.metAt (h : CQ w1 wr tag aC nO capC R sz cp el aN nN capN cn aM nm capM mt) (j : Nat) (hj : j < nm) :
    ∃ g, aM = some ⟨g, 0, none⟩ ∧ wr.cell? ⟨g, j, none⟩ = some (.int .i64 (mt j : Int)) := by
  obtain ⟨g, rfl, hS, hlt, hce, hf, hst⟩ := h.met.at j hj
  exact ⟨g, rfl, hce⟩

theorem CQ.outAt (h : CQ w1 wr tag aC nO capC R sz cp el aN nN capN cn aM nm capM mt) (c : Nat) (hc : c < nO) :
    ∃ g, aC = some ⟨g, 0, none⟩ ∧ w1.heap.size ≤ g ∧ wr.cell? ⟨g, c, none⟩ = some (.slice (R c) (sz c) (cp c)) := by
  obtain ⟨g, rfl, hS, hlt, hce, hf, hst⟩ := h.outer.at c hc
  exact ⟨g, rfl, hS.2, hce⟩

theorem CQ.metCut (h : CQ w1 wr tag aC nO capC R sz cp el aN nN capN cn aM nm capM mt) : CQ w1 wr tag aC nO capC R sz cp el aN nN capN cn aM 0 capM mt :=
  ⟨h.outer, h.rows, h.cnts, h.met.cut 0 (Nat.zero_le _), h.size⟩

/-- behind 'met = append(met, c)'. -/
theorem CQ.metApp (h : CQ w1 wr tag aC nO capC R sz cp el aN nN capN cn aM nm capM mt) (hW : Ext (fun _ => False) wr W) {b : Nat} (hb : W.heap.size = b) {a' : Option Addr} {cap' c : Nat}
    (ho : Own (fun k => Tg w1 tag 1 k ∨ k = b) 3 wq a' (nm + 1) cap' (upd (fun j => .int .i64 (mt j : Int)) nm (.int .i64 (c : Int)))) (hx : Ext (Tg w1 tag 1) W wq) :
    CQ w1 wq (upd tag b 1) aC nO capC R sz cp el aN nN capN cn a' (nm + 1) cap' (upd mt nm c) := by
  subst hb
  have hs := h.size
  have hWs := hW.size
  have tr : ∀ {t : Nat} {e : TypeId} {a : Option Addr} {n cap : Nat} {f : Nat → Value}, t ≠ 1 → Own (Tg w1 tag t) e wr a n cap f → Own (Tg w1 (upd tag W.heap.size 1) t) e wq a n cap f := by
    intro t e a n cap f ht o
    have o1 := o.ext hW (fun _ _ h => h)
    have o2 : Own (Tg w1 (upd tag W.heap.size 1) t) e W a n cap f := o1.mono_lt (fun k hk h => h.upd hk)
    exact o2.kept (fun k hk hlt => hx.block k hlt (fun h1 => by have e1 := hk.1; have e2 := h1.1; rw [upd_other _ _ _ _ (by omega)] at e1; omega))
  refine ⟨tr (by omega) h.outer, fun c' hc' => tr (by omega) (h.rows c' hc'), tr (by omega) h.cnts, ?_, Nat.le_trans hs (Nat.le_trans hWs hx.size)⟩
  refine (ho.mono (fun k hk => ?_)).congr (fun j _ => upd_map (fun n : Nat => Value.int .i64 (n : Int)) mt nm c j)
  rcases hk with hk | rfl
  · by_cases e : k = W.heap.size
    · subst e; exact ⟨upd_same _ _ _, by omega⟩
    · exact ⟨by rw [upd_other _ _ _ _ e]; exact hk.1, hk.2⟩
  · exact ⟨upd_same _ _ _, by omega⟩

/-- behind 'cliques = append(cliques, nil)'. -/
theorem CQ.outApp (h : CQ w1 wr tag aC nO capC R sz cp el aN nN capN cn aM nm capM mt) (hW : Ext (fun _ => False) wr W) {b : Nat} (hb : W.heap.size = b) {a' : Option Addr} {cap' : Nat} (hz : sz nO = 0)
    (ho : Own (fun k => Tg w1 tag 3 k ∨ k = b) 24 wq a' (nO + 1) cap' (upd (fun c => .slice (R c) (sz c) (cp c)) nO (.slice none 0 0))) (hx : Ext (Tg w1 tag 3) W wq) :
    CQ w1 wq (upd tag b 3) a' (nO + 1) cap' (upd R nO none) sz (upd cp nO 0) el aN nN capN cn aM nm capM mt := by
  subst hb
  have hs := h.size
  have hWs := hW.size
  have tr : ∀ {t : Nat} {e : TypeId} {a : Option Addr} {n cap : Nat} {f : Nat → Value}, t ≠ 3 → Own (Tg w1 tag t) e wr a n cap f → Own (Tg w1 (upd tag W.heap.size 3) t) e wq a n cap f := by
    intro t e a n cap f ht o
    have o1 := o.ext hW (fun _ _ h => h)
    have o2 : Own (Tg w1 (upd tag W.heap.size 3) t) e W a n cap f := o1.mono_lt (fun k hk h => h.upd hk)
    exact o2.kept (fun k hk hlt => hx.block k hlt (fun h1 => by have e1 := hk.1; have e2 := h1.1; rw [upd_other _ _ _ _ (by omega)] at e1; omega))
  refine ⟨?_, fun c' hc' => ?_, tr (by omega) h.cnts, tr (by omega) h.met, Nat.le_trans hs (Nat.le_trans hWs hx.size)⟩
  · refine (ho.mono (fun k hk => ?_)).congr (fun j hj => ?_)
    · rcases hk with hk | rfl
      · by_cases e : k = W.heap.size
        · subst e; exact ⟨upd_same _ _ _, by omega⟩
        · exact ⟨by rw [upd_other _ _ _ _ e]; exact hk.1, hk.2⟩
      · exact ⟨upd_same _ _ _, by omega⟩
    · by_cases e : j = nO
      · subst e; rw [upd_same, upd_same, upd_same, hz]
      · rw [upd_other _ _ _ _ e, upd_other _ _ _ _ e, upd_other _ _ _ _ e]
  · by_cases e : c' = nO
    · subst e; rw [upd_same, upd_same, hz]; exact Own.nil
    · rw [upd_other _ _ _ _ e, upd_other _ _ _ _ e]; exact tr (by omega) (h.rows c' (by omega))

/-- behind 'counts = append(counts, 0)'. -/
theorem CQ.cntApp (h : CQ w1 wr tag aC nO capC R sz cp el aN nN capN cn aM nm capM mt) (hW : Ext (fun _ => False) wr W) {b : Nat} (hb : W.heap.size = b) {a' : Option Addr} {cap' : Nat} (hz : cn nN = 0)
    (ho : Own (fun k => Tg w1 tag 2 k ∨ k = b) 3 wq a' (nN + 1) cap' (upd (fun c => .int .i64 (cn c : Int)) nN (.int .i64 0))) (hx : Ext (Tg w1 tag 2) W wq) :
    CQ w1 wq (upd tag b 2) aC nO capC R sz cp el a' (nN + 1) cap' cn aM nm capM mt := by
  subst hb
  have hs := h.size
  have hWs := hW.size
  have tr : ∀ {t : Nat} {e : TypeId} {a : Option Addr} {n cap : Nat} {f : Nat → Value}, t ≠ 2 → Own (Tg w1 tag t) e wr a n cap f → Own (Tg w1 (upd tag W.heap.size 2) t) e wq a n cap f := by
    intro t e a n cap f ht o
    have o1 := o.ext hW (fun _ _ h => h)
    have o2 : Own (Tg w1 (upd tag W.heap.size 2) t) e W a n cap f := o1.mono_lt (fun k hk h => h.upd hk)
    exact o2.kept (fun k hk hlt => hx.block k hlt (fun h1 => by have e1 := hk.1; have e2 := h1.1; rw [upd_other _ _ _ _ (by omega)] at e1; omega))
  refine ⟨tr (by omega) h.outer, fun c' hc' => tr (by omega) (h.rows c' hc'), ?_, tr (by omega) h.met, Nat.le_trans hs (Nat.le_trans hWs hx.size)⟩
  refine (ho.mono (fun k hk => ?_)).congr (fun j hj => ?_)
  · rcases hk with hk | rfl
    · by_cases e : k = W.heap.size
      · subst e; exact ⟨upd_same _ _ _, by omega⟩
      · exact ⟨by rw [upd_other _ _ _ _ e]; exact hk.1, hk.2⟩
    · exact ⟨upd_same _ _ _, by omega⟩
  · by_cases e : j = nN
    · subst e; rw [upd_same, hz]; rfl
    · rw [upd_other _ _ _ _ e]

/-- behind 'cliques[j] = append(cliques[j], p)': the append, then the store. -/
theorem CQ.rowApp (h : CQ w1 wr tag aC nO capC R sz cp el aN nN capN cn aM nm capM mt) (hW : Ext (fun _ => False) wr W) {b : Nat} (hb : W.heap.size = b) {a' : Option Addr} {cap' j p : Nat} (hj : j < nO)
    (ho : Own (fun k => Tg w1 tag (4 + j) k ∨ k = b) 3 wq a' (sz j + 1) cap' (upd (fun i => .int .i64 (el j i : Int)) (sz j) (.int .i64 (p : Int)))) (hx : Ext (Tg w1 tag (4 + j)) W wq) :
    ∃ g, aC = some ⟨g, 0, none⟩ ∧ w1.heap.size ≤ g ∧ wq.cell? ⟨g, j, none⟩ = some (.slice (R j) (sz j) (cp j)) ∧ wq.frozen? ⟨g, j, none⟩ = false ∧
      CQ w1 (wq.setCell ⟨g, j, none⟩ (.slice a' (sz j + 1) cap')) (upd tag b (4 + j)) aC nO capC (upd R j a') (upd sz j (sz j + 1)) (upd cp j cap') (upd el j (upd (el j) (sz j) p)) aN nN capN cn aM nm capM mt := by
  subst hb
  have hs := h.size
  have hWs := hW.size
  have tr : ∀ {t : Nat} {e : TypeId} {a : Option Addr} {n cap : Nat} {f : Nat → Value}, t ≠ 4 + j → Own (Tg w1 tag t) e wr a n cap f → Own (Tg w1 (upd tag W.heap.size (4 + j)) t) e wq a n cap f := by
    intro t e a n cap f ht o
    have o1 := o.ext hW (fun _ _ h => h)
    have o2 : Own (Tg w1 (upd tag W.heap.size (4 + j)) t) e W a n cap f := o1.mono_lt (fun k hk h => h.upd hk)
    exact o2.kept (fun k hk hlt => hx.block k hlt (fun h1 => by have e1 := hk.1; have e2 := h1.1; rw [upd_other _ _ _ _ (by omega)] at e1; omega))
  have hout := tr (by omega) h.outer
  obtain ⟨g, rfl, hS, hlt, hce, hf, hst⟩ := hout.at j hj
  have hx2 : Ext (fun k => k = g) wq (wq.setCell ⟨g, j, none⟩ (.slice a' (sz j + 1) cap')) := (Ext.refl (fun k => k = g) _).setCell (fun _ => rfl) _
  have ne : ∀ {t : Nat}, t ≠ 3 → ∀ k, Tg w1 (upd tag W.heap.size (4 + j)) t k → ¬ k = g := by
    intro t ht k hk e
    have := hk.1; have := hS.1; subst e; omega
  refine ⟨g, rfl, hS.2, hce, hf, ⟨(hst _).congr (fun c _ => ?_), fun c hc => ?_, (tr (by omega) h.cnts).ext hx2 (ne (by omega)), (tr (by omega) h.met).ext hx2 (ne (by omega)), Nat.le_trans hs (Nat.le_trans hWs (Nat.le_trans hx.size hx2.size))⟩⟩
  · by_cases e : c = j
    · subst e; rw [upd_same, upd_same, upd_same, upd_same]
    · rw [upd_other _ _ _ _ e, upd_other _ _ _ _ e, upd_other _ _ _ _ e, upd_other _ _ _ _ e]
  · by_cases e : c = j
    · subst e
      rw [upd_same, upd_same, upd_same, upd_same]
      refine Own.ext (((ho.mono (fun k hk => ?_))).congr (fun i _ => upd_map (fun n : Nat => Value.int .i64 (n : Int)) (el c) (sz c) p i)) hx2 (ne (t := 4 + c) (by omega))
      rcases hk with hk | rfl
      · by_cases e : k = W.heap.size
        · subst e; exact ⟨upd_same _ _ _, by omega⟩
        · exact ⟨by rw [upd_other _ _ _ _ e]; exact hk.1, hk.2⟩
      · exact ⟨upd_same _ _ _, by omega⟩
    · rw [upd_other _ _ _ _ e, upd_other _ _ _ _ e, upd_other _ _ _ _ e, upd_other _ _ _ _ e]
      exact (tr (by omega) (h.rows c hc)).ext hx2 (ne (by omega))

end
end Go.Proofs.Qxb6601557a
