/-
  The memory of the greedy model: its marks, and its rows. By an AI agent.
-/
import Derived.Test.Qxb6601557aM7
import Derived.Test.Qxb6601557aIns
import Derived.Test.Qxb6601557aEq
namespace Go.Proofs.Qxb6601557a
set_option linter.unusedVariables false
open Go.RowKit

section
variable {w1 wr wq W : World} {tag : Nat → Nat} {aC : Option Addr} {nO capC : Nat} {R : Nat → Option Addr} {sz cp : Nat → Nat} {el : Nat → Nat → Nat} {cn mt : Nat → Nat}

/-- behind 'model = append(model, []int{p})'. -/
theorem CQ.newRow (h : CQ w1 wr tag aC nO capC R sz cp el none 0 0 cn none 0 0 mt) (p : Nat) (hW : W = (wr.alloc (.cells #[.int .i64 (p : Int)] 3)).alloc (.cells #[.slice (some ⟨wr.heap.size, 0, none⟩) 1 1] 24)) {b : Nat} (hb : W.heap.size = b) {a' : Option Addr} {cap' : Nat}
    (ho : Own (fun k => (Tg w1 tag 3 k ∧ k < wr.heap.size) ∨ k = b) 24 wq a' (nO + 1) cap' (upd (fun c => .slice (R c) (sz c) (cp c)) nO (.slice (some ⟨wr.heap.size, 0, none⟩) 1 1))) (hx : Ext (fun k => Tg w1 tag 3 k ∧ k < wr.heap.size) W wq) :
    CQ w1 wq (upd (upd tag wr.heap.size (4 + nO)) b 3) a' (nO + 1) cap' (upd R nO (some ⟨wr.heap.size, 0, none⟩)) (upd sz nO 1) (upd cp nO 1) (upd el nO (upd (el nO) 0 p)) none 0 0 cn none 0 0 mt := by
  have hs := h.size
  have hbs : b = wr.heap.size + 2 := by rw [← hb, hW]; simp
  have hxW : Ext (fun _ => False) wr W := by rw [hW]; exact ((Ext.refl _ _).alloc _).alloc _
  have hlow : ∀ k, k < wr.heap.size → upd (upd tag wr.heap.size (4 + nO)) b 3 k = tag k := fun k hk => by rw [upd_other _ _ _ _ (by omega), upd_other _ _ _ _ (by omega)]
  refine ⟨?_, fun c hc => ?_, Own.nil, Own.nil, Nat.le_trans hs (Nat.le_trans hxW.size hx.size)⟩
  · refine (ho.mono (fun k hk => ?_)).congr (fun j hj => ?_)
    · rcases hk with ⟨hk, hl⟩ | rfl
      · exact ⟨by rw [hlow k hl]; exact hk.1, hk.2⟩
      · exact ⟨upd_same _ _ _, by omega⟩
    · by_cases e : j = nO
      · subst e; rw [upd_same, upd_same, upd_same, upd_same]
      · rw [upd_other _ _ _ _ e, upd_other _ _ _ _ e, upd_other _ _ _ _ e, upd_other _ _ _ _ e]
  · by_cases e : c = nO
    · subst e
      rw [upd_same, upd_same, upd_same, upd_same]
      have o1 := (Own.box (fun k => k = wr.heap.size) wr (.int .i64 (p : Int)) 3 rfl).alloc (.cells #[.slice (some ⟨wr.heap.size, 0, none⟩) 1 1] 24)
      rw [← hW] at o1
      have o2 := o1.ext hx (fun k hk e => by have := e.2; omega)
      refine (o2.mono (fun k hk => ?_)).congr (fun i hi => ?_)
      · subst hk
        exact ⟨by rw [upd_other _ _ _ _ (by omega), upd_same], by omega⟩
      · obtain rfl : i = 0 := by omega
        rw [upd_same]
    · rw [upd_other _ _ _ _ e, upd_other _ _ _ _ e, upd_other _ _ _ _ e, upd_other _ _ _ _ e]
      have o1 := (h.rows c (by omega)).mono_lt (T := fun k => Tg w1 (upd (upd tag wr.heap.size (4 + nO)) b 3) (4 + c) k ∧ tag k = 4 + c) (fun k hk hk2 => ⟨⟨by rw [hlow k hk]; exact hk2.1, hk2.2⟩, hk2.1⟩)
      have o2 := o1.ext hxW (fun _ _ h => h)
      exact (o2.ext hx (fun k hk e => by have := hk.2; have := e.1.1; omega)).mono (fun k hk => hk.1)
end

/-- the marks and the rows, behind wm. -/
structure ModS (wm wr : World) (g n : Nat) (mk : Nat → Bool) (tag : Nat → Nat) (aC : Option Addr) (nO capC : Nat) (R : Nat → Option Addr) (sz cp : Nat → Nat) (el : Nat → Nat → Nat) : Prop where
  sc : ScS wm wr g n n mk
  cq : CQ wm wr tag aC nO capC R sz cp el none 0 0 (fun _ => 0) none 0 0 (fun _ => 0)
  lt : g < wm.heap.size

section
variable {wm wr wq W : World} {g n : Nat} {mk : Nat → Bool} {tag : Nat → Nat} {aC : Option Addr} {nO capC : Nat} {R : Nat → Option Addr} {sz cp : Nat → Nat} {el : Nat → Nat → Nat}

theorem ModS.at (h : ModS wm wr g n mk tag aC nO capC R sz cp el) (j : Nat) (hj : j < n) : wr.cell? ⟨g, j, none⟩ = some (.bool (mk j)) ∧ wr.frozen? ⟨g, j, none⟩ = false ∧
    ∀ v, ModS wm (wr.setCell ⟨g, j, none⟩ (.bool v)) g n (upd1 mk j v) tag aC nO capC R sz cp el := by
  obtain ⟨hc, hf, hput⟩ := h.sc.at j hj
  refine ⟨hc, hf, fun v => ⟨hput v, h.cq.ext ((Ext.refl (fun k => k = g) _).setCell (fun _ => rfl) _) (fun k hk e => by have := h.lt; omega), h.lt⟩⟩

theorem ModS.drewN (h : ModS wm wr g n mk tag aC nO capC R sz cp el) (k : Nat) : ModS wm (wr.drewN k) g n mk tag aC nO capC R sz cp el := ⟨h.sc.drewN k, h.cq.ext ((Ext.refl (fun _ => False) wr).drewN k) (fun _ _ h => h), h.lt⟩

/-- a later world, in which only blocks behind wm have turned. -/
theorem ScS.later {wm wr wq : World} {g n cm : Nat} {f : Nat → Bool} {T : Nat → Prop} (h : ScS wm wr g n cm f) (hx : Ext T wr wq) (hT : ∀ k, T k → wm.heap.size ≤ k) (hg : g < wm.heap.size) : ScS wm wq g n cm f :=
  ⟨h.ext.trans hx (fun k hk ht => by have := hT k ht; omega), h.own.ext hx (fun k hk ht => by have := hT k ht; omega)⟩
end
theorem sumD_sumN (d O : Nat → Nat) : ∀ m, sumD d O m = ((sumN m (fun l => d (O l)) : Nat) : Int)
  | 0 => rfl
  | m + 1 => by
    show sumD d O m + d (O m) = ((sumN m (fun l => d (O l)) + d (O m) : Nat) : Int)
    rw [sumD_sumN d O m]; omega

theorem sumD_perm {d O P : Nat → Nat} {np t : Nat} {dg : Nat → Int} (ho : OrdOk np dg P t O) : sumD d O np = ((sumN np (fun i => d (P i)) : Nat) : Int) := by
  rw [sumD_sumN, ← sumN_perm (r := rk np (keyOf t dg P)) (fun i hi => rk_lt hi) (fun i j hi hj e => rk_inj hi hj e)]
  congr 1
  exact sumN_congr (fun i hi => by rw [ho.at_ i hi])

theorem sumN_le {n D : Nat} {f : Nat → Nat} (h : ∀ i, i < n → f i ≤ D) : sumN n f ≤ n * D := by
  induction n with
  | zero => simp [sumN]
  | succ n ih =>
    have h1 := ih (fun i hi => h i (by omega))
    have h2 := h n (by omega)
    show sumN n f + f n ≤ _
    rw [Nat.succ_mul]; omega

theorem wrap64_add2 (a b c : Int) : wrap64 (wrap64 (a + b) + c) = wrap64 (a + b + c) := wrap64_add _ _

section
variable {fit : Nat → Bool} {sz : Nat → Nat} {c b : Nat}
theorem bestTo_no (h : fit c = false) : bestTo fit sz (c + 1) = bestTo fit sz c := by
  rw [bestTo]; cases bestTo fit sz c <;> simp [h]
theorem bestTo_first (h : fit c = true) (hb : bestTo fit sz c = none) : bestTo fit sz (c + 1) = some c := by
  rw [bestTo, hb]; simp [h]
theorem bestTo_more (h : fit c = true) (hb : bestTo fit sz c = some b) (hs : sz b < sz c) : bestTo fit sz (c + 1) = some c := by
  rw [bestTo, hb]; simp [h, hs]
theorem bestTo_less (hb : bestTo fit sz c = some b) (hs : ¬ sz b < sz c) : bestTo fit sz (c + 1) = some b := by
  rw [bestTo, hb]; simp [hs]
theorem bestTo_lt (hb : bestTo fit sz c = some b) : b < c := by
  have := bestTo_is fit sz c; rw [hb] at this; exact this.1
end

end Go.Proofs.Qxb6601557a
