/-
  ZZFold, with folds handed in. By an AI agent.
-/
import Derived.Test.Qxb6601557aFolds
namespace Go.Proofs.Qxb6601557a
set_option linter.unusedVariables false
open Go.RowKit

theorem Rd4.stp {W w w' : World} {tag tag' : Nat → Nat} {a : Option Addr} {n t : Nat} {F : Nat → Nat → Int} (h : Rd4 (Tg W tag t) w a n F) (hs : Stp W tag w tag' w') (ht : 14 ≤ t) : Rd4 (Tg W tag' t) w' a n F := by
  intro j hj
  obtain ⟨b, off, ha, hS, c0, c1, c2, c3⟩ := h j hj
  have hlt : b < w.heap.size := World.block_lt_of_cell? w _ c0
  have hT : ¬ (W.heap.size ≤ b ∧ tag b ≤ 13) := fun e => by have := hS.1; omega
  exact ⟨b, off, ha, ⟨(hs.tg b hlt).trans hS.1, hS.2⟩, cellX c0 hs.ext hT, cellX c1 hs.ext hT, cellX c2 hs.ext hT, cellX c3 hs.ext hT⟩

/-- the search behind k of the folds. -/
structure FX (x : FA) (F : Nat → Nat → Int) (k : Nat) (y : FA) : Prop where
  L : ∀ j, j ≠ 6 → y.L j = x.L j
  R : y.R = x.R
  rc : y.rc = x.rc
  d : y.d = x.d
  N : y.N = x.N
  st : y.st = x.st
  dg : y.dg = x.dg
  tr : y.tr = x.tr
  tu : y.tu = x.tu
  qu : y.qu = x.qu
  ma : y.ma = x.ma
  sd : y.sd = x.sd
  sc : y.sc = x.sc
  s4 : y.s4 = x.s4
  l6 : y.L 6 = k
  F : ∀ j, j < k → y.F j = F j

theorem FX.zero {x : FA} {F : Nat → Nat → Int} (h : x.L 6 = 0) : FX x F 0 x := ⟨fun _ _ => rfl, rfl, rfl, rfl, rfl, rfl, rfl, rfl, rfl, rfl, rfl, rfl, rfl, rfl, h, fun j hj => absurd hj (Nat.not_lt_zero j)⟩
theorem FX.step {x y : FA} {F : Nat → Nat → Int} {k : Nat} (h : FX x F k y) (a' : Option Addr) (c' : Nat) : FX x F (k + 1) (y.apF a' c' (F k)) := by
  refine ⟨fun j hj => ?_, h.R, h.rc, h.d, h.N, h.st, h.dg, h.tr, h.tu, h.qu, h.ma, h.sd, h.sc, h.s4, ?_, fun j hj => ?_⟩
  · show upd y.L 6 _ j = _; rw [upd_other _ _ _ _ hj]; exact h.L j hj
  · show upd y.L 6 (y.L 6 + 1) 6 = _; rw [upd_same, h.l6]
  · show upd y.F (y.L 6) (F k) j = _
    rw [h.l6]
    by_cases e : j = k
    · subst e; rw [upd_same]
    · rw [upd_other _ _ _ _ e]; exact h.F j (by omega)

theorem FoldIn.fx {n : Nat} {x y : FA} {F : Nat → Nat → Int} {k v u w iu iw : Nat} (h : FoldIn n x v u w iu iw) (hf : FX x F k y) (hk : k ≤ 131072) : FoldIn n y v u w iu iw := by
  refine ⟨?_, ?_, ?_, ?_, h.hn, ?_, ?_, ?_, ?_, by rw [hf.l6]; exact hk, ?_, ?_, ?_, ?_⟩
  · rw [hf.L 0 (by omega)]; exact h.l0
  · rw [hf.L 1 (by omega)]; exact h.l1
  · rw [hf.L 2 (by omega)]; exact h.l2
  · rw [hf.L 8 (by omega)]; exact h.l8
  · rw [hf.d, hf.N]; exact h.gr
  · rw [hf.rc, hf.d]; exact h.full
  · rw [hf.d, hf.N, hf.st]; exact h.two
  · rw [hf.L 3 (by omega)]; exact h.l3
  · rw [hf.L 7 (by omega)]; exact h.l7
  · rw [hf.L 9 (by omega)]; exact h.l9
  · rw [hf.L 10 (by omega)]; exact h.l10
  · rw [hf.L 11 (by omega)]; exact h.l11

section
variable {a : Act} {w : World}
theorem run_ia42 {o : Oper} (x : Operand) (i : Nat) (hi : i < 4) (ho : o.op = .indexAddr 42 x (.const (.int .i64 (i : Int)))) (b : Nat) (hx : a.eval x = .pointer (some ⟨b, 0, none⟩)) : (execOp a.eval o).run Try.prog w = .ok (.value (.pointer (some ⟨b, i, none⟩))) w := by
  unfold execOp
  match i, hi with
  | 0, _ => simp [ho, hx]; go_simp
  | 1, _ => simp [ho, hx]; go_simp
  | 2, _ => simp [ho, hx]; go_simp
  | 3, _ => simp [ho, hx]; go_simp
theorem run_b68 {o : Oper} (x0 x1 x2 x3 : Operand) (ho : o.op = .build 68 #[(0, x0), (1, x1), (2, x2), (3, x3)]) (z0 z1 z2 z3 : Int) (h0 : a.eval x0 = .int .i64 z0) (h1 : a.eval x1 = .int .i64 z1) (h2 : a.eval x2 = .int .i64 z2) (h3 : a.eval x3 = .int .i64 z3) : (execOp a.eval o).run Try.prog w = .ok (.value (.agg #[.int .i64 z0, .int .i64 z1, .int .i64 z2, .int .i64 z3])) w := by
  unfold execOp
  simp [ho, h0, h1, h2, h3]
  go_simp
end

def val5 (bs bq nF cF : Nat) (aF : Option Addr) (z0 z1 z2 z3 : Int) : Nat → Option Value
  | 0 => some (.pointer (some ⟨bs, 0, none⟩))
  | 1 => some (.pointer (some ⟨bs, 0, none⟩))
  | 2 => some (.pointer (some ⟨bs, 0, none⟩))
  | 3 => some (.pointer (some ⟨bs, 6, none⟩))
  | 4 => some (.slice aF nF cF)
  | 5 => some (.pointer (some ⟨bq, 0, none⟩))
  | 6 => some (.int .i64 z0)
  | 7 => some (.pointer (some ⟨bq, 1, none⟩))
  | 8 => some (.int .i64 z1)
  | 9 => some (.pointer (some ⟨bq, 2, none⟩))
  | 10 => some (.int .i64 z2)
  | 11 => some (.pointer (some ⟨bq, 3, none⟩))
  | 12 => some (.int .i64 z3)
  | 13 => some (.agg #[.int .i64 z0, .int .i64 z1, .int .i64 z2, .int .i64 z3])
  | 16 => some (.pointer (some ⟨bs, 0, none⟩))
  | 17 => some (.pointer (some ⟨bs, 6, none⟩))
  | _ => none
structure K5 (bf : Nat) (z0 z1 z2 z3 : Int) (W : World) : Prop where
  c0 : W.cell? ⟨bf, 0, none⟩ = some (.int .i64 z0)
  c1 : W.cell? ⟨bf, 1, none⟩ = some (.int .i64 z1)
  c2 : W.cell? ⟨bf, 2, none⟩ = some (.int .i64 z2)
  c3 : W.cell? ⟨bf, 3, none⟩ = some (.int .i64 z3)
theorem K5.ext {bf : Nat} {z0 z1 z2 z3 : Int} {W W' : World} {T : Nat → Prop} (h : K5 bf z0 z1 z2 z3 W) (hx : Ext T W W') (hT : ¬ T bf) : K5 bf z0 z1 z2 z3 W' := ⟨cellX h.c0 hx hT, cellX h.c1 hx hT, cellX h.c2 hx hT, cellX h.c3 hx hT⟩
def P5b (wr : World) (z0 z1 z2 z3 : Int) (vv : Value) (W : World) : Prop := vv = .slice (some ⟨wr.heap.size, 0, none⟩) 1 1 ∧ W = wr.drew.alloc (.cells #[.int .i64 z0, .int .i64 z1, .int .i64 z2, .int .i64 z3] 68)
def P5c (W : World) (tg : Nat → Nat) (wr : World) (zz : FA) (z0 z1 z2 z3 : Int) (f : Nat → Int) (vv : Value) (W' : World) : Prop := ∃ a' c', vv = .slice a' (zz.L 6 + 1) c' ∧ Own4 (fun k => Tg W tg 6 k ∨ k = wr.heap.size + 1) 68 W' a' (zz.L 6 + 1) c' (upd zz.F (zz.L 6) f) ∧ Ext (Tg W tg 6) (wr.drew.alloc (.cells #[.int .i64 z0, .int .i64 z1, .int .i64 z2, .int .i64 z3] 68)) W'
def P5d (W : World) (tg : Nat → Nat) (wr : World) (bs : Nat) (zz : FA) (f : Nat → Int) (W' : World) : Prop := ∃ a' c' tg', FM W tg' W' bs (zz.apF a' c' f) ∧ Stp W tg wr tg' W'

set_option maxHeartbeats 4000000 in
set_option maxRecDepth 100000 in
theorem zzfoldG_any {W : World} {tag : Nat → Nat} {w0 : World} {x : FA} (h : FT W tag w0 x) (n v u w iu iw : Nat) (hin : FoldIn n x v u w iu iw) (h6a : x.a 6 = none) (h6l : x.L 6 = 0) (h6c : x.C 6 = 0) (aF : Option Addr) (nF cF : Nat) (F0 : Nat → Nat → Int) (hF0 : Rd4 (Tg W tag 18) w0 aF nF F0) (hnF : nF ≤ 32768) :
    Calls Try.prog 19 #[.slice (x.a 0) (x.L 0) (x.C 0), .slice (x.a 1) (x.L 1) (x.C 1), .slice (x.a 2) (x.L 2) (x.C 2), .slice (x.a 3) (x.L 3) (x.C 3), .int .i64 x.s4, .int .i64 x.s5, .slice aF nF cF, .slice (x.a 7) (x.L 7) (x.C 7), .slice (x.a 8) (x.L 8) (x.C 8), .slice (x.a 9) (x.L 9) (x.C 9), .slice (x.a 10) (x.L 10) (x.C 10), .slice (x.a 11) (x.L 11) (x.C 11), .int .i64 v] w0 fun e w' => ∃ tag' x0 x' nm mk y aO cO F bs,
      e = .returned (.tuple #[.slice (x'.a 0) (x'.L 0) (x'.C 0), .slice (x'.a 1) (x'.L 1) (x'.C 1), .slice (x'.a 2) (x'.L 2) (x'.C 2), .slice (x'.a 3) (x'.L 3) (x'.C 3), .int .i64 x'.s4, .slice aO (x'.L 6) cO, .slice (x'.a 7) (x'.L 7) (x'.C 7), .slice (x'.a 8) (x'.L 8) (x'.C 8), .slice (x'.a 9) (x'.L 9) (x'.C 9), .slice (x'.a 10) (x'.L 10) (x'.C 10), .slice (x'.a 11) (x'.L 11) (x'.C 11)]) ∧
      M19 W w0 bs x' tag' w' (x'.L 6) cO aO F ∧ FX x F0 nF x0 ∧ FoldR n x0 x' v u w nm mk y ∧ Made n x.d x.N (okM x v) u w nm mk := by
  have hfm := h.fm
  have hstr : x.str = #[.slice (x.a 0) (x.L 0) (x.C 0), .slice (x.a 1) (x.L 1) (x.C 1), .slice (x.a 2) (x.L 2) (x.C 2), .slice (x.a 3) (x.L 3) (x.C 3), .int .i64 x.s4, .int .i64 x.s5, .slice none 0 0, .slice (x.a 7) (x.L 7) (x.C 7), .slice (x.a 8) (x.L 8) (x.C 8), .slice (x.a 9) (x.L 9) (x.C 9), .slice (x.a 10) (x.L 10) (x.C 10), .slice (x.a 11) (x.L 11) (x.C 11)] := by
    unfold FA.str; rw [h6a, h6l, h6c]
  rw [hstr] at hfm
  have hL60 : Hid (x.L 6 = 0) := h6l
  clear hstr h6a h6l h6c
  go_enter Try.func19, Try.ntmps19
  go_wp2_with fail
  obtain ⟨wS, hwS⟩ : ∃ y, y = w0.alloc (.cells #[.slice (x.a 0) (x.L 0) (x.C 0), .slice (x.a 1) (x.L 1) (x.C 1), .slice (x.a 2) (x.L 2) (x.C 2), .slice (x.a 3) (x.L 3) (x.C 3), .int .i64 x.s4, .int .i64 x.s5, .slice none 0 0, .slice (x.a 7) (x.L 7) (x.C 7), .slice (x.a 8) (x.L 8) (x.C 8), .slice (x.a 9) (x.L 9) (x.C 9), .slice (x.a 10) (x.L 10) (x.C 10), .slice (x.a 11) (x.L 11) (x.C 11)] 66) := ⟨_, rfl⟩
  have hxS : Ext (fun k => W.heap.size ≤ k) w0 wS := by rw [hwS]; exact (Ext.refl _ _).alloc _
  rw [← hwS] at hfm ⊢
  have HWS : Hid (wS = w0.alloc (.cells #[.slice (x.a 0) (x.L 0) (x.C 0), .slice (x.a 1) (x.L 1) (x.C 1), .slice (x.a 2) (x.L 2) (x.C 2), .slice (x.a 3) (x.L 3) (x.C 3), .int .i64 x.s4, .int .i64 x.s5, .slice none 0 0, .slice (x.a 7) (x.L 7) (x.C 7), .slice (x.a 8) (x.L 8) (x.C 8), .slice (x.a 9) (x.L 9) (x.C 9), .slice (x.a 10) (x.L 10) (x.C 10), .slice (x.a 11) (x.L 11) (x.C 11)] 66)) := hwS
  clear hwS
  have hrS : Rd4 (Tg W (upd tag w0.heap.size 13) 18) wS aF nF F0 := by
    intro j hj
    obtain ⟨b, off, ha, hS, c0, c1, c2, c3⟩ := hF0 j hj
    have hlt : b < w0.heap.size := World.block_lt_of_cell? w0 _ c0
    have hxx : Ext (fun k => w0.heap.size ≤ k) w0 wS := by rw [HWS.out]; exact (Ext.refl _ _).alloc _
    have hT : ¬ w0.heap.size ≤ b := by omega
    exact ⟨b, off, ha, ⟨by rw [upd_other _ _ _ _ (by omega)]; exact hS.1, hS.2⟩, cellX c0 hxx hT, cellX c1 hxx hT, cellX c2 hxx hT, cellX c3 hxx hT⟩
  clear HWS
  generalize upd tag w0.heap.size 13 = tS at *
  generalize w0.heap.size = bs at *
  go_loopw [58] (fun s58 wr => ∃ (k : Nat) (tg : Nat → Nat) (y : FA), k ≤ nF ∧ s58 = .int .i64 k ∧ FM W tg wr bs y ∧ Ext (fun k => W.heap.size ≤ k) w0 wr ∧ Rd4 (Tg W tg 18) wr aF nF F0 ∧ FX x F0 k y) (fun i _ => nF - (intOf i).toNat)
  case atStart => exact ⟨0, tS, x, Nat.zero_le _, rfl, hfm, hxS, hrS, FX.zero hL60.out⟩
  case round =>
    clear hfm hxS hrS hF0
    obtain ⟨k, tg, z, hk, rfl, hm, hxz, hrz, hX⟩ := hrel
    rename World => wr
    by_cases hkl : k < nF
    · obtain ⟨b, off, rfl, hSb, c0, c1, c2, c3⟩ := hrz k hkl
      have hl6 := hX.l6
      have g1 : (k : Int) < (nF : Int) := by omega
      have hz6 : z.L 6 ≤ 32768 := by omega
      obtain ⟨wq, hwq⟩ : ∃ y, y = wr.alloc (.cells #[.int .i64 (F0 k 0), .int .i64 (F0 k 1), .int .i64 (F0 k 2), .int .i64 (F0 k 3)] 42) := ⟨_, rfl⟩
      have hxq : Ext (fun _ => False) wr wq := by rw [hwq]; exact (Ext.refl _ _).alloc _
      have htq : ∀ k, k < wr.heap.size → upd tg wr.heap.size 19 k = tg k := fun k hk => upd_other _ _ _ _ (by omega)
      have mq : FM W (upd tg wr.heap.size 19) wq bs z := hm.later hxq (fun _ _ _ h => h) htq
      have sq : Stp W tg wr (upd tg wr.heap.size 19) wq := ⟨hxq.mono (fun _ _ h => h.elim), htq⟩
      have rq := hrz.stp sq (by omega)
      have hKq : K5 wr.heap.size (F0 k 0) (F0 k 1) (F0 k 2) (F0 k 3) wq := by
        rw [hwq]
        have d0 := cells4 wr (.int .i64 (F0 k 0)) (.int .i64 (F0 k 1)) (.int .i64 (F0 k 2)) (.int .i64 (F0 k 3)) 42 _ rfl 0 _ rfl
        have d1 := cells4 wr (.int .i64 (F0 k 0)) (.int .i64 (F0 k 1)) (.int .i64 (F0 k 2)) (.int .i64 (F0 k 3)) 42 _ rfl 1 _ rfl
        have d2 := cells4 wr (.int .i64 (F0 k 0)) (.int .i64 (F0 k 1)) (.int .i64 (F0 k 2)) (.int .i64 (F0 k 3)) 42 _ rfl 2 _ rfl
        have d3 := cells4 wr (.int .i64 (F0 k 0)) (.int .i64 (F0 k 1)) (.int .i64 (F0 k 2)) (.int .i64 (F0 k 3)) 42 _ rfl 3 _ rfl
        simp only [Addr.add_lit, Nat.zero_add] at d0 d1 d2 d3
        exact ⟨d0, d1, d2, d3⟩
      have htag : upd tg wr.heap.size 19 wr.heap.size = 19 := upd_same _ _ _
      have xq := hxz.trans hxq (fun _ _ h => h.elim)
      have hF8 := mq.sl 6 (by omega) (by omega) (by omega)
      clear hm hrz hxz hxq htq
      go_upto_region 5 with fail
      rw [← hwq]
      clear hwq c0 c1 c2 c3
      generalize upd tg wr.heap.size 19 = tg' at *
      have Hf : Hid (True) := trivial
      clear sq
      generalize wr.heap.size = bq at *
      refine wp_region_good (by kernel_rfl) (by kernel_rfl) (by kernel_rfl) (by kernel_rfl) (RA (val5 bs bq (z.L 6) (z.C 6) (z.a 6) (F0 k 0) (F0 k 1) (F0 k 2) (F0 k 3)) 4 14 15 18 (K5 bq (F0 k 0) (F0 k 1) (F0 k 2) (F0 k 3)) (P36a wq) (P5b wq (F0 k 0) (F0 k 1) (F0 k 2) (F0 k 3)) (P5c W tg' wq z (F0 k 0) (F0 k 1) (F0 k 2) (F0 k 3) (F0 k)) (P5d W tg' wq bs z (F0 k))) (RA.start ⟨hKq.c0, hKq.c1, hKq.c2, hKq.c3⟩ rfl) (OpsAll.all0 ⟨?_, ?_, ?_, ?_, ?_, ?_, ?_, ?_, ?_, ?_, ?_, ?_, ?_, ?_, ?_, ?_, ?_, ?_, ?_, trivial⟩) ?_
      rotate_right
      · intro vv2 wd hRB
        obtain ⟨a9, c9, tg9, m9, s9⟩ := hRB.fin (by simp)
        have x9 := xq.trans s9.ext (fun k _ h => h.1)
        have r9 := rq.stp s9 (by omega)
        have hX9 := hX.step a9 c9
        clear hRB s9 hKq hF8 mq xq rq hX
        simp only [putAll]
        go_wp2_with fail
        go_roundw
        case rel => exact ⟨k + 1, tg9, _, by omega, by go_num, m9, x9, r9, hX9⟩
        case measure => simp [intOf]; omega
      · exact goodMove (.tmp 37) (.inl rfl) (fun m a w h hm ht => h.rd 0 _ (by decide) (by decide) (by decide) (by rw [(ht.out 37 (by kernel_rfl)).trans (show _ = Value.pointer (some ⟨bs, 0, none⟩) by kernel_rfl)]; rfl))
      · exact goodMove (.tmp 37) (.inl rfl) (fun m a w h hm ht => h.rd 1 _ (by decide) (by decide) (by decide) (by rw [(ht.out 37 (by kernel_rfl)).trans (show _ = Value.pointer (some ⟨bs, 0, none⟩) by kernel_rfl)]; rfl))
      · exact goodVal (fun m a w h hm ht => ⟨_, _, run_nil (.tmp 63) rfl _ (h.vals 1 _ rfl _ (ht.on 1 63 (by kernel_rfl) (by kernel_rfl))), h.rd 2 _ (by decide) (by decide) (by decide) rfl⟩)
      · exact goodVal (fun m a w h hm ht => ⟨_, _, run_fld (.tmp 64) 6 (by decide) rfl bs (h.vals 2 _ rfl _ (ht.on 2 64 (by kernel_rfl) (by kernel_rfl))), h.rd 3 _ (by decide) (by decide) (by decide) rfl⟩)
      · exact goodVal (fun m a w h hm ht => ⟨_, _, run_ld 64 (by decide) (.tmp 65) rfl _ (h.vals 3 _ rfl _ (ht.on 3 65 (by kernel_rfl) (by kernel_rfl))) _ ((h.early hm).elim (fun e => by rw [show w = wq.drew from e]; exact hF8) (fun ⟨vb, e⟩ => by rw [e.2]; exact cellX hF8 (((Ext.refl (fun _ => False) wq).drew).alloc _) (fun h => h))), h.rd 4 _ (by decide) (by decide) (by decide) rfl⟩)
      · exact goodVal (fun m a w h hm ht => ⟨_, _, run_ia42 (.tmp 39) 0 (by decide) rfl bq ((ht.out 39 (by kernel_rfl)).trans (by kernel_rfl)), h.rd 5 _ (by decide) (by decide) (by decide) rfl⟩)
      · exact goodVal (fun m a w h hm ht => ⟨_, _, run_ld 3 (by decide) (.tmp 67) rfl _ (h.vals 5 _ rfl _ (ht.on 5 67 (by kernel_rfl) (by kernel_rfl))) _ (h.k.c0), h.rd 6 _ (by decide) (by decide) (by decide) rfl⟩)
      · exact goodVal (fun m a w h hm ht => ⟨_, _, run_ia42 (.tmp 39) 1 (by decide) rfl bq ((ht.out 39 (by kernel_rfl)).trans (by kernel_rfl)), h.rd 7 _ (by decide) (by decide) (by decide) rfl⟩)
      · exact goodVal (fun m a w h hm ht => ⟨_, _, run_ld 3 (by decide) (.tmp 69) rfl _ (h.vals 7 _ rfl _ (ht.on 7 69 (by kernel_rfl) (by kernel_rfl))) _ (h.k.c1), h.rd 8 _ (by decide) (by decide) (by decide) rfl⟩)
      · exact goodVal (fun m a w h hm ht => ⟨_, _, run_ia42 (.tmp 39) 2 (by decide) rfl bq ((ht.out 39 (by kernel_rfl)).trans (by kernel_rfl)), h.rd 9 _ (by decide) (by decide) (by decide) rfl⟩)
      · exact goodVal (fun m a w h hm ht => ⟨_, _, run_ld 3 (by decide) (.tmp 71) rfl _ (h.vals 9 _ rfl _ (ht.on 9 71 (by kernel_rfl) (by kernel_rfl))) _ (h.k.c2), h.rd 10 _ (by decide) (by decide) (by decide) rfl⟩)
      · exact goodVal (fun m a w h hm ht => ⟨_, _, run_ia42 (.tmp 39) 3 (by decide) rfl bq ((ht.out 39 (by kernel_rfl)).trans (by kernel_rfl)), h.rd 11 _ (by decide) (by decide) (by decide) rfl⟩)
      · exact goodVal (fun m a w h hm ht => ⟨_, _, run_ld 3 (by decide) (.tmp 73) rfl _ (h.vals 11 _ rfl _ (ht.on 11 73 (by kernel_rfl) (by kernel_rfl))) _ (h.k.c3), h.rd 12 _ (by decide) (by decide) (by decide) rfl⟩)
      · exact goodVal (fun m a w h hm ht => ⟨_, _, run_b68 (.tmp 68) (.tmp 70) (.tmp 72) (.tmp 74) rfl _ _ _ _ (h.vals 6 _ rfl _ (ht.on 6 68 (by kernel_rfl) (by kernel_rfl))) (h.vals 8 _ rfl _ (ht.on 8 70 (by kernel_rfl) (by kernel_rfl))) (h.vals 10 _ rfl _ (ht.on 10 72 (by kernel_rfl) (by kernel_rfl))) (h.vals 12 _ rfl _ (ht.on 12 74 (by kernel_rfl) (by kernel_rfl))), h.rd 13 _ (by decide) (by decide) (by decide) rfl⟩)
      · refine goodVal (fun m a w' h hm ht => ?_)
        have e5 := h.vals 13 _ rfl _ (ht.on 13 75 (by kernel_rfl) (by kernel_rfl))
        obtain ⟨hw, _, _⟩ := h.at0 hm
        obtain rfl : w' = wq.drew := hw
        have hxa := ((Ext.refl (fun _ => False) wq).drew).alloc (.cells #[.int .i64 (F0 k 0), .int .i64 (F0 k 1), .int .i64 (F0 k 2), .int .i64 (F0 k 3)] 68)
        exact ⟨_, _, run_bld4 (.tmp 75) rfl _ _ _ _ e5, h.bld hm rfl (by decide) (by decide) (hKq.ext hxa (fun h => h)) ⟨rfl, rfl⟩⟩
      · refine goodVal (fun m a w' h hm ht => ?_)
        have m4 := ht.on 4 66 (by kernel_rfl) (by kernel_rfl)
        have m6 := ht.on 14 76 (by kernel_rfl) (by kernel_rfl)
        have e4 := h.vals 4 _ rfl _ m4
        obtain ⟨⟨e6, hw⟩, _⟩ := h.at1 hm m6
        have hxa := ((Ext.refl (fun _ => False) wq).drew).alloc (.cells #[.int .i64 (F0 k 0), .int .i64 (F0 k 1), .int .i64 (F0 k 2), .int .i64 (F0 k 3)] 68)
        have hsz : w'.heap.size = wq.heap.size + 1 := by rw [hw]; simp
        have hT6 : Own4 (Tg W tg' 6) 68 w' (z.a 6) (z.L 6) (z.C 6) z.F := by rw [hw]; exact mq.fo.tagged hxa (fun _ _ h => h) (fun _ _ => rfl)
        have hnc : ∀ (j : Nat) (v' : Value), ([.int .i64 (F0 k 0), .int .i64 (F0 k 1), .int .i64 (F0 k 2), .int .i64 (F0 k 3)] : List Value)[j]? = some v' → w'.cell? ((⟨wq.heap.size, 0, none⟩ : Addr).add j) = some v' := by rw [hw]; exact cells4 _ _ _ _ _ _ _ (by simp)
        obtain ⟨a9, c9, w9, hrun, ho9, hx9⟩ := run_app4 (P := Try.prog) w' 64 64 68 _ Try.underlying64 info68 rfl (Tg W tg' 6) (z.a 6) (z.L 6) (z.C 6) z.F hT6 ⟨wq.heap.size, 0, none⟩ 1 _ _ _ _ hnc (F0 k) rfl rfl rfl rfl (by omega) (by omega)
        rw [hsz] at ho9
        rw [hw] at hx9
        have hxb : Ext (Tg W tg' 6) wq w9 := (hxa.mono (fun _ _ h => h.elim)).trans hx9 (fun _ _ h => h)
        have hbf : ¬ Tg W tg' 6 bq := fun h => by have h1 := h.1; omega
        refine ⟨_, _, run_apd (.tmp 66) (.tmp 76) 64 rfl _ _ (by rw [e4, e6]; exact hrun), h.app hm m6 m4 rfl (by decide) (hKq.ext hxb hbf) ⟨a9, c9, rfl, ho9, hx9⟩⟩
      · exact goodVal (fun m a w h hm ht => ⟨_, _, run_nil (.tmp 62) rfl _ (h.vals 0 _ rfl _ (ht.on 0 62 (by kernel_rfl) (by kernel_rfl))), h.rd 16 _ (by decide) (by decide) (by decide) rfl⟩)
      · exact goodVal (fun m a w h hm ht => ⟨_, _, run_fld (.tmp 78) 6 (by decide) rfl bs (h.vals 16 _ rfl _ (ht.on 16 78 (by kernel_rfl) (by kernel_rfl))), h.rd 17 _ (by decide) (by decide) (by decide) rfl⟩)
      · refine goodSkip (fun m a w' h hm ht => ?_)
        have e9 := h.vals 17 _ rfl _ (ht.on 17 79 (by kernel_rfl) (by kernel_rfl))
        have m7' := ht.on 15 77 (by kernel_rfl) (by kernel_rfl)
        obtain ⟨⟨a9, c9, e7, ho9, hx9⟩, _⟩ := h.at2 hm m7'
        obtain ⟨hc9, hf9, m9, s9⟩ := mq.appF (((Ext.refl (fun _ => False) wq).drew).alloc _) (by simp) ho9 hx9
        exact ⟨_, run_sto 64 (by decide) (.tmp 79) (.tmp 77) rfl _ e9 _ _ _ e7 _ hc9 hf9, h.sto hm m7' rfl (hKq.ext s9.ext (fun h => by have := h.2; omega)) ⟨a9, c9, _, m9, s9⟩⟩
    · obtain rfl : k = nF := by omega
      have hin2 := hin.fx hX (by omega)
      clear hrz
      go_wp2_with fail
      refine (fold_any hm n v u w iu iw hin2).mono ?_
      rintro e w1 ⟨rfl, tag1, x1, nm, mk, y, m1, hx1, hR, hMd⟩
      have x1e := hxz.trans hx1 (fun _ _ h => h)
      have hM0 : M19 W w0 bs x1 tag1 w1 0 0 none x1.F := ⟨m1, x1e, .inl ⟨rfl, rfl, rfl⟩, fun _ _ => rfl⟩
      have hF0 := m1.sl 6 (by omega) (by omega) (by omega)
      obtain ⟨aF, haF⟩ : ∃ r, x1.a 6 = r := ⟨_, rfl⟩
      rw [haF] at hF0
      have HaF : Hid (x1.a 6 = aF) := haF
      clear haF
      have hL6 : x1.L 6 ≤ 200000 := by rw [hR.l6, hX.l6]; omega
      have HR : Hid (FoldR n z x1 v u w nm mk y) := hR
      have HX : Hid (FX x F0 k z) := hX
      clear m1 hx1 x1e hR hm hxz hX
      go_wp2_with fail
      go_loopw [40, 89] (fun s40 s89 wr => ∃ (k cO : Nat) (aO : Option Addr) (F : Nat → Nat → Int) (tg : Nat → Nat), k ≤ x1.L 6 ∧ s89 = .int .i64 k ∧ s40 = .slice aO k cO ∧ M19 W w0 bs x1 tg wr k cO aO F) (fun _ i _ => x1.L 6 - (intOf i).toNat)
      case atStart => exact ⟨0, 0, none, x1.F, tag1, Nat.zero_le _, rfl, rfl, hM0⟩
      case round =>
        clear hM0 hF0
        obtain ⟨k, cO, aO, F, tg, hk, rfl, rfl, hM⟩ := hrel
        by_cases hkl : k < x1.L 6
        · obtain ⟨g, eg, hS, hlt, c0, c1, c2, c3⟩ := hM.fm.fo.at k hkl
          rw [HaF.out] at eg
          subst eg
          obtain ⟨z0, h0⟩ : ∃ z, z = x1.F k 0 := ⟨_, rfl⟩
          obtain ⟨z1, h1⟩ : ∃ z, z = x1.F k 1 := ⟨_, rfl⟩
          obtain ⟨z2, h2⟩ : ∃ z, z = x1.F k 2 := ⟨_, rfl⟩
          obtain ⟨z3, h3⟩ : ∃ z, z = x1.F k 3 := ⟨_, rfl⟩
          rw [← h0] at c0
          rw [← h1] at c1
          rw [← h2] at c2
          rw [← h3] at c3
          have Hz : Hid (z0 = x1.F k 0 ∧ z1 = x1.F k 1 ∧ z2 = x1.F k 2 ∧ z3 = x1.F k 3) := ⟨h0, h1, h2, h3⟩
          clear h0 h1 h2 h3
          have d0 := cells4 wr (.int .i64 z0) (.int .i64 z1) (.int .i64 z2) (.int .i64 z3) 68 _ rfl 0 _ rfl
          have d1 := cells4 wr (.int .i64 z0) (.int .i64 z1) (.int .i64 z2) (.int .i64 z3) 68 _ rfl 1 _ rfl
          have d2 := cells4 wr (.int .i64 z0) (.int .i64 z1) (.int .i64 z2) (.int .i64 z3) 68 _ rfl 2 _ rfl
          have d3 := cells4 wr (.int .i64 z0) (.int .i64 z1) (.int .i64 z2) (.int .i64 z3) 68 _ rfl 3 _ rfl
          simp only [Addr.add_lit, Nat.zero_add] at d0 d1 d2 d3
          have hoo := hM.oo
          go_wp2_with (at_builtin; refine wpList_app4 _ rfl (.tmp 93) (.tmp 103) 25 rfl 42 _ Try.underlying25 info42 rfl (Tg W tg 17) aO k cO F rfl ((hoo.tagged ((Ext.refl (fun _ => False) wr).alloc _) (fun _ _ h => h) (fun _ _ => rfl)).tagged ((Ext.refl (fun _ => False) _).alloc _) (fun _ _ h => h) (fun _ _ => rfl)) ⟨wr.heap.size + 1, 0, none⟩ 1 z0 z1 z2 z3 rfl (cells4 _ _ _ _ _ _ _ (by simp)) (x1.F k) Hz.out.1.symm Hz.out.2.1.symm Hz.out.2.2.1.symm Hz.out.2.2.2.symm (by omega) (by omega) ?_)
          intro a3 c3' w3 ho3 hx3
          have hM3 := hM.app (((Ext.refl (fun _ => False) wr).alloc _).alloc _) (by simp) ho3 hx3 rfl
          clear hM hoo ho3 hx3 c0 c1 c2 c3 d0 d1 d2 d3
          go_wp2_with fail
          go_roundw
          case rel => exact ⟨k + 1, c3', a3, _, _, by omega, by go_num, rfl, hM3⟩
          case measure => simp [intOf]; omega
        · obtain rfl : k = x1.L 6 := by omega
          have f0 := hM.fm.sl 0 (by omega) (by omega) (by omega)
          have f1 := hM.fm.sl 1 (by omega) (by omega) (by omega)
          have f2 := hM.fm.sl 2 (by omega) (by omega) (by omega)
          have f3 := hM.fm.sl 3 (by omega) (by omega) (by omega)
          have f4 := hM.fm.steps.1
          have f7 := hM.fm.sl 7 (by omega) (by omega) (by omega)
          have f8 := hM.fm.sl 8 (by omega) (by omega) (by omega)
          have f9 := hM.fm.sl 9 (by omega) (by omega) (by omega)
          have f10 := hM.fm.sl 10 (by omega) (by omega) (by omega)
          have f11 := hM.fm.sl 11 (by omega) (by omega) (by omega)
          go_wp2_with fail
          go_quiet (fail)
          go_wp2_with fail
          (try simp only [Exit.inBlock, Exit.then]); refine bodyPost_ret (results_tmp11 rfl _ _) rfl ?_
          exact ⟨tg, z, x1, nm, mk, y, aO, cO, F, bs, rfl, hM.dr _, HX.out, HR.out, by have e1 := HX.out.d; have e2 := HX.out.N; have e3 := HX.out.st; rw [e1, e2, e3] at hMd; exact hMd⟩
end Go.Proofs.Qxb6601557a
