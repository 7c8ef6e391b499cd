/-
  ZZFold, no folds handed in. By an AI agent.
-/
import Derived.Test.Qxb6601557aFold
namespace Go.Proofs.Qxb6601557a
set_option linter.unusedVariables false
open Go.RowKit

/-- the tables, ahead of the search's own block. -/
structure FT (W : World) (tag : Nat → Nat) (w : World) (x : FA) : Prop where
  tab : ∀ j, IsTab j → Own (Tg W tag j) (fty j) w (x.a j) (x.L j) (x.C j) (x.f j)
  fo : Own4 (Tg W tag 6) 68 w (x.a 6) (x.L 6) (x.C 6) x.F
  rows : ∀ p, p < x.L 0 → Rd (Tg W tag 12) w (x.R p) (x.d p) (fun i => .int .i64 (x.N p i : Int))
  siz : W.heap.size ≤ w.heap.size

def FA.str (x : FA) : Array Value := #[.slice (x.a 0) (x.L 0) (x.C 0), .slice (x.a 1) (x.L 1) (x.C 1), .slice (x.a 2) (x.L 2) (x.C 2), .slice (x.a 3) (x.L 3) (x.C 3), .int .i64 x.s4, .int .i64 x.s5, .slice (x.a 6) (x.L 6) (x.C 6), .slice (x.a 7) (x.L 7) (x.C 7), .slice (x.a 8) (x.L 8) (x.C 8), .slice (x.a 9) (x.L 9) (x.C 9), .slice (x.a 10) (x.L 10) (x.C 10), .slice (x.a 11) (x.L 11) (x.C 11)]

theorem FT.fm {W : World} {tag : Nat → Nat} {w : World} {x : FA} (h : FT W tag w x) : FM W (upd tag w.heap.size 13) (w.alloc (.cells x.str 66)) w.heap.size x := by
  have hx : Ext (fun _ => False) w (w.alloc (.cells x.str 66)) := (Ext.refl _ _).alloc _
  have htg : ∀ k, k < w.heap.size → upd tag w.heap.size 13 k = tag k := fun k hk => upd_other _ _ _ _ (by omega)
  refine ⟨?_, fun j hj => (h.tab j hj).tagged hx (fun _ _ h => h) htg, h.fo.tagged hx (fun _ _ h => h) htg, fun p hp => (h.rows p hp).tagged hx (fun _ _ h => h) htg, Nat.le_trans h.siz hx.size⟩
  refine .inr ⟨w.heap.size, _, rfl, ⟨upd_same _ _ _, h.siz⟩, heap_alloc_new w _, Nat.le_refl _, by unfold maxLen; omega, rfl, ?_⟩
  intro j hj
  match j, hj with
  | 0, _ => rfl
  | 1, _ => rfl
  | 2, _ => rfl
  | 3, _ => rfl
  | 4, _ => rfl
  | 5, _ => rfl
  | 6, _ => rfl
  | 7, _ => rfl
  | 8, _ => rfl
  | 9, _ => rfl
  | 10, _ => rfl
  | 11, _ => rfl

theorem wpList_app4 {P : Program} (w : World) {ops : Array Oper} {rest : List Oper} {o : Oper} {a : Act} {Q : Exit → Act → World → Prop}
    (hgd : o.guard = none) (s x : Operand) (t : TypeId) (ho : o.op = .call { callee := .builtin .append, args := #[s, x], argTypes := #[t, t] })
    (e : TypeId) (z : Value) (h1 : P.underlying t = some (.slice e)) (hinfo : (P.info? e).map (fun i => (i.zero, i.size, i.bytes)) = some (some z, 4, 32)) (hz : z.cells.size = 4)
    (S : Nat → Prop) (ao : Option Addr) (n cap : Nat) (F : Nat → Nat → Int) (hs : a.eval s = .slice ao n cap) (hown : Own4 S e w ao n cap F) (ad : Addr) (c : Nat) (z0 z1 z2 z3 : Int) (hx : a.eval x = .slice (some ad) 1 c)
    (hu : ∀ (j : Nat) (v : Value), ([.int .i64 z0, .int .i64 z1, .int .i64 z2, .int .i64 z3] : List Value)[j]? = some v → w.cell? (ad.add j) = some v) (f : Nat → Int) (hf0 : f 0 = z0) (hf1 : f 1 = z1) (hf2 : f 2 = z2) (hf3 : f 3 = z3) (hb : (n + 1) * 32 ≤ 140737488355328) (hn : n + 1 ≤ 9223372036854775807)
    (h : ∀ a' cap' w', Own4 (fun k => S k ∨ k = w.heap.size) e w' a' (n + 1) cap' (upd F n f) → Ext S w w' → wpList P ops Q rest (a.put o.dst (.slice a' (n + 1) cap')) w') :
    wpList P ops Q (o :: rest) a w := by
  refine wpList_plain hgd fun K hK' => ?_
  obtain ⟨a', cap', w', hr, r1, r2⟩ := run_app4 (P := P) w t o.type e z h1 hinfo hz S ao n cap F hown ad c z0 z1 z2 z3 hu f hf0 hf1 hf2 hf3 hb hn
  unfold Oper.wp execOp
  simp only [ho, resolve, invoke, builtin, Sem.run_bind, Sem.run_pure, Result.andThen_ok, List.map_toArray, List.map_cons, List.map_nil, hs, hx, hr]
  exact hK' _ _ (h a' cap' w' r1 r2)

/-- the copying out: k of the folds. -/
structure M19 (W w0 : World) (bs : Nat) (x : FA) (tg : Nat → Nat) (wr : World) (k cO : Nat) (aO : Option Addr) (F : Nat → Nat → Int) : Prop where
  fm : FM W tg wr bs x
  ext : Ext (fun k => W.heap.size ≤ k) w0 wr
  oo : Own4 (Tg W tg 17) 42 wr aO k cO F
  eq : ∀ j, j < k → F j = x.F j

/-- element k of the folds. -/
theorem Own4.at {S : Nat → Prop} {e : TypeId} {w : World} {a : Option Addr} {n cap : Nat} {F : Nat → Nat → Int} (h : Own4 S e w a n cap F) (j : Nat) (hj : j < n) : ∃ g, a = some ⟨g, 0, none⟩ ∧ S g ∧ g < w.heap.size ∧ w.cell? ⟨g, j * 4, none⟩ = some (.int .i64 (F j 0)) ∧ w.cell? ⟨g, j * 4 + 1, none⟩ = some (.int .i64 (F j 1)) ∧ w.cell? ⟨g, j * 4 + 2, none⟩ = some (.int .i64 (F j 2)) ∧ w.cell? ⟨g, j * 4 + 3, none⟩ = some (.int .i64 (F j 3)) := by
  rcases h with ⟨_, h0, _⟩ | ⟨g, cur, rfl, hS, hg, h1, h2, h3, h4⟩
  · omega
  · refine ⟨g, rfl, hS, (Array.getElem?_eq_some_iff.1 hg).1, ?_, ?_, ?_, ?_⟩
    · rw [cell_of_row w g _ cur e (0, 0) hg, Nat.mul_comm]; exact h4 j 0 hj (by omega)
    · rw [cell_of_row w g _ cur e (0, 0) hg, Nat.mul_comm]; exact h4 j 1 hj (by omega)
    · rw [cell_of_row w g _ cur e (0, 0) hg, Nat.mul_comm]; exact h4 j 2 hj (by omega)
    · rw [cell_of_row w g _ cur e (0, 0) hg, Nat.mul_comm]; exact h4 j 3 hj (by omega)

theorem M19.app {W w0 : World} {bs : Nat} {x : FA} {tg : Nat → Nat} {wr wA w3 : World} {k cO c' b : Nat} {aO a' : Option Addr} {F : Nat → Nat → Int} {f : Nat → Int} (h : M19 W w0 bs x tg wr k cO aO F) (hA : Ext (fun _ => False) wr wA) (hb : wA.heap.size = b)
    (ho : Own4 (fun k => Tg W tg 17 k ∨ k = b) 42 w3 a' (k + 1) c' (upd F k f)) (hx : Ext (Tg W tg 17) wA w3) (hf : f = x.F k) : M19 W w0 bs x (upd tg b 17) w3 (k + 1) c' a' (upd F k f) := by
  have hs := hA.size
  have hsz := h.fm.siz
  have hx1 : Ext (Tg W tg 17) wr w3 := ((Ext.refl (Tg W tg 17) wr).trans hA (fun _ _ h => h.elim)).trans hx (fun _ _ h => h)
  have htg : ∀ k, k < wr.heap.size → upd tg b 17 k = tg k := fun k hk => upd_other _ _ _ _ (by omega)
  refine ⟨h.fm.later hx1 (fun k _ ht e => by have := e.1; omega) htg, h.ext.trans hx1 (fun k _ e => e.2), ?_, fun j hj => ?_⟩
  · rcases ho with ho | ⟨g, cur, e, hS, r⟩
    · exact .inl ho
    · refine .inr ⟨g, cur, e, ?_, r⟩
      rcases hS with hk | rfl
      · by_cases e : g = b
        · subst e; exact ⟨upd_same _ _ _, by omega⟩
        · exact ⟨by rw [upd_other _ _ _ _ e]; exact hk.1, hk.2⟩
      · exact ⟨upd_same _ _ _, by omega⟩
  · by_cases e : j = k
    · subst e; rw [upd_same, hf]
    · rw [upd_other _ _ _ _ e]; exact h.eq j (by omega)

theorem results_tmp11 {P : Program} {fn : Func} {a b c d e f g h i j k : Tmp} (hr : fn.results = #[.tmp a, .tmp b, .tmp c, .tmp d, .tmp e, .tmp f, .tmp g, .tmp h, .tmp i, .tmp j, .tmp k]) (tmps : Array Value) (w : World) :
    (results fn tmps).run P w = .ok (.tuple #[tmps.getD a undef, tmps.getD b undef, tmps.getD c undef, tmps.getD d undef, tmps.getD e undef, tmps.getD f undef, tmps.getD g undef, tmps.getD h undef, tmps.getD i undef, tmps.getD j undef, tmps.getD k undef]) w := by
  simp [results, hr]

theorem M19.dr {W w0 : World} {bs : Nat} {x : FA} {tg : Nat → Nat} {wr : World} {k cO : Nat} {aO : Option Addr} {F : Nat → Nat → Int} (h : M19 W w0 bs x tg wr k cO aO F) (m : Nat) : M19 W w0 bs x tg (wr.drewN m) k cO aO F := ⟨h.fm.drewN m, h.ext.drewN m, h.oo.tagged (T := fun _ => False) ((Ext.refl _ _).drewN m) (fun _ _ h => h) (fun _ _ => rfl), h.eq⟩

theorem cells4 (w : World) (z0 z1 z2 z3 : Value) (e : TypeId) (b : Nat) (hb : w.heap.size = b) : ∀ (j : Nat) (v : Value), ([z0, z1, z2, z3] : List Value)[j]? = some v → (w.alloc (.cells #[z0, z1, z2, z3] e)).cell? ((⟨b, 0, none⟩ : Addr).add j) = some v := by
  intro j v hj
  subst hb
  rw [Addr.add_lit, Nat.zero_add]
  have hg := heap_alloc_new w (.cells #[z0, z1, z2, z3] e)
  have h9 := cell_of_row _ w.heap.size j _ e (0, 0) hg
  exact h9.trans (by simpa using hj)

set_option maxHeartbeats 4000000 in
set_option maxRecDepth 100000 in
theorem zzfold_any {W : World} {tag : Nat → Nat} {w0 : World} {x : FA} (h : FT W tag w0 x) (n v u w iu iw : Nat) (hin : FoldIn n x v u w iu iw) (h6a : x.a 6 = none) (h6l : x.L 6 = 0) (h6c : x.C 6 = 0) :
    Calls Try.prog 19 #[.slice (x.a 0) (x.L 0) (x.C 0), .slice (x.a 1) (x.L 1) (x.C 1), .slice (x.a 2) (x.L 2) (x.C 2), .slice (x.a 3) (x.L 3) (x.C 3), .int .i64 x.s4, .int .i64 x.s5, .slice none 0 0, .slice (x.a 7) (x.L 7) (x.C 7), .slice (x.a 8) (x.L 8) (x.C 8), .slice (x.a 9) (x.L 9) (x.C 9), .slice (x.a 10) (x.L 10) (x.C 10), .slice (x.a 11) (x.L 11) (x.C 11), .int .i64 v] w0 fun e w' => ∃ tag' x' nm mk y aO cO F bs,
      e = .returned (.tuple #[.slice (x'.a 0) (x'.L 0) (x'.C 0), .slice (x'.a 1) (x'.L 1) (x'.C 1), .slice (x'.a 2) (x'.L 2) (x'.C 2), .slice (x'.a 3) (x'.L 3) (x'.C 3), .int .i64 x'.s4, .slice aO (x'.L 6) cO, .slice (x'.a 7) (x'.L 7) (x'.C 7), .slice (x'.a 8) (x'.L 8) (x'.C 8), .slice (x'.a 9) (x'.L 9) (x'.C 9), .slice (x'.a 10) (x'.L 10) (x'.C 10), .slice (x'.a 11) (x'.L 11) (x'.C 11)]) ∧
      M19 W w0 bs x' tag' w' (x'.L 6) cO aO F ∧ FoldR n x x' v u w nm mk y ∧ Made n x.d x.N (okM x v) u w nm mk := by
  have hfm := h.fm
  have hstr : x.str = #[.slice (x.a 0) (x.L 0) (x.C 0), .slice (x.a 1) (x.L 1) (x.C 1), .slice (x.a 2) (x.L 2) (x.C 2), .slice (x.a 3) (x.L 3) (x.C 3), .int .i64 x.s4, .int .i64 x.s5, .slice none 0 0, .slice (x.a 7) (x.L 7) (x.C 7), .slice (x.a 8) (x.L 8) (x.C 8), .slice (x.a 9) (x.L 9) (x.C 9), .slice (x.a 10) (x.L 10) (x.C 10), .slice (x.a 11) (x.L 11) (x.C 11)] := by
    unfold FA.str; rw [h6a, h6l, h6c]
  rw [hstr] at hfm
  clear hstr h6a h6l h6c
  go_enter Try.func19, Try.ntmps19
  go_wp2_with fail
  obtain ⟨wS, hwS⟩ : ∃ y, y = w0.alloc (.cells #[.slice (x.a 0) (x.L 0) (x.C 0), .slice (x.a 1) (x.L 1) (x.C 1), .slice (x.a 2) (x.L 2) (x.C 2), .slice (x.a 3) (x.L 3) (x.C 3), .int .i64 x.s4, .int .i64 x.s5, .slice none 0 0, .slice (x.a 7) (x.L 7) (x.C 7), .slice (x.a 8) (x.L 8) (x.C 8), .slice (x.a 9) (x.L 9) (x.C 9), .slice (x.a 10) (x.L 10) (x.C 10), .slice (x.a 11) (x.L 11) (x.C 11)] 66) := ⟨_, rfl⟩
  have hxS : Ext (fun k => W.heap.size ≤ k) w0 wS := by rw [hwS]; exact (Ext.refl _ _).alloc _
  rw [← hwS] at hfm ⊢
  clear hwS
  generalize upd tag w0.heap.size 13 = tS at *
  generalize w0.heap.size = bs at *
  go_loopw [58] (fun s58 wr => s58 = .int .i64 0 ∧ wr = wS) (fun _ _ => 0)
  case atStart => exact ⟨rfl, rfl⟩
  case round =>
    obtain ⟨rfl, rfl⟩ := hrel
    go_wp2_with fail
    refine (fold_any hfm n v u w iu iw hin).mono ?_
    rintro e w1 ⟨rfl, tag1, x1, nm, mk, y, m1, hx1, hR, hMd⟩
    have x1e := hxS.trans hx1 (fun _ _ h => h)
    have hM0 : M19 W w0 bs x1 tag1 w1 0 0 none x1.F := ⟨m1, x1e, .inl ⟨rfl, rfl, rfl⟩, fun _ _ => rfl⟩
    have hF0 := m1.sl 6 (by omega) (by omega) (by omega)
    obtain ⟨aF, haF⟩ : ∃ r, x1.a 6 = r := ⟨_, rfl⟩
    rw [haF] at hF0
    have HaF : Hid (x1.a 6 = aF) := haF
    clear haF
    have hL6 : x1.L 6 ≤ 200000 := by rw [hR.l6]; have := hin.l6; omega
    have HR : Hid (FoldR n x x1 v u w nm mk y) := hR
    clear m1 hx1 x1e hR hfm hxS
    go_wp2_with fail
    go_loopw [40, 89] (fun s40 s89 wr => ∃ (k cO : Nat) (aO : Option Addr) (F : Nat → Nat → Int) (tg : Nat → Nat), k ≤ x1.L 6 ∧ s89 = .int .i64 k ∧ s40 = .slice aO k cO ∧ M19 W w0 bs x1 tg wr k cO aO F) (fun _ i _ => x1.L 6 - (intOf i).toNat)
    case atStart => exact ⟨0, 0, none, x1.F, tag1, Nat.zero_le _, rfl, rfl, hM0⟩
    case round =>
      clear hM0 hF0
      obtain ⟨k, cO, aO, F, tg, hk, rfl, rfl, hM⟩ := hrel
      by_cases hkl : k < x1.L 6
      · obtain ⟨g, eg, hS, hlt, c0, c1, c2, c3⟩ := hM.fm.fo.at k hkl
        rw [HaF.out] at eg
        subst eg
        obtain ⟨z0, h0⟩ : ∃ z, z = x1.F k 0 := ⟨_, rfl⟩
        obtain ⟨z1, h1⟩ : ∃ z, z = x1.F k 1 := ⟨_, rfl⟩
        obtain ⟨z2, h2⟩ : ∃ z, z = x1.F k 2 := ⟨_, rfl⟩
        obtain ⟨z3, h3⟩ : ∃ z, z = x1.F k 3 := ⟨_, rfl⟩
        rw [← h0] at c0
        rw [← h1] at c1
        rw [← h2] at c2
        rw [← h3] at c3
        have Hz : Hid (z0 = x1.F k 0 ∧ z1 = x1.F k 1 ∧ z2 = x1.F k 2 ∧ z3 = x1.F k 3) := ⟨h0, h1, h2, h3⟩
        clear h0 h1 h2 h3
        have d0 := cells4 wr (.int .i64 z0) (.int .i64 z1) (.int .i64 z2) (.int .i64 z3) 68 _ rfl 0 _ rfl
        have d1 := cells4 wr (.int .i64 z0) (.int .i64 z1) (.int .i64 z2) (.int .i64 z3) 68 _ rfl 1 _ rfl
        have d2 := cells4 wr (.int .i64 z0) (.int .i64 z1) (.int .i64 z2) (.int .i64 z3) 68 _ rfl 2 _ rfl
        have d3 := cells4 wr (.int .i64 z0) (.int .i64 z1) (.int .i64 z2) (.int .i64 z3) 68 _ rfl 3 _ rfl
        simp only [Addr.add_lit, Nat.zero_add] at d0 d1 d2 d3
        have hoo := hM.oo
        go_wp2_with (at_builtin; refine wpList_app4 _ rfl (.tmp 93) (.tmp 103) 25 rfl 42 _ Try.underlying25 info42 rfl (Tg W tg 17) aO k cO F rfl ((hoo.tagged ((Ext.refl (fun _ => False) wr).alloc _) (fun _ _ h => h) (fun _ _ => rfl)).tagged ((Ext.refl (fun _ => False) _).alloc _) (fun _ _ h => h) (fun _ _ => rfl)) ⟨wr.heap.size + 1, 0, none⟩ 1 z0 z1 z2 z3 rfl (cells4 _ _ _ _ _ _ _ (by simp)) (x1.F k) Hz.out.1.symm Hz.out.2.1.symm Hz.out.2.2.1.symm Hz.out.2.2.2.symm (by omega) (by omega) ?_)
        intro a3 c3' w3 ho3 hx3
        have hM3 := hM.app (((Ext.refl (fun _ => False) wr).alloc _).alloc _) (by simp) ho3 hx3 rfl
        clear hM hoo ho3 hx3 c0 c1 c2 c3 d0 d1 d2 d3
        go_wp2_with fail
        go_roundw
        case rel => exact ⟨k + 1, c3', a3, _, _, by omega, by go_num, rfl, hM3⟩
        case measure => simp [intOf]; omega
      · obtain rfl : k = x1.L 6 := by omega
        have f0 := hM.fm.sl 0 (by omega) (by omega) (by omega)
        have f1 := hM.fm.sl 1 (by omega) (by omega) (by omega)
        have f2 := hM.fm.sl 2 (by omega) (by omega) (by omega)
        have f3 := hM.fm.sl 3 (by omega) (by omega) (by omega)
        have f4 := hM.fm.steps.1
        have f7 := hM.fm.sl 7 (by omega) (by omega) (by omega)
        have f8 := hM.fm.sl 8 (by omega) (by omega) (by omega)
        have f9 := hM.fm.sl 9 (by omega) (by omega) (by omega)
        have f10 := hM.fm.sl 10 (by omega) (by omega) (by omega)
        have f11 := hM.fm.sl 11 (by omega) (by omega) (by omega)
        go_wp2_with fail
        go_quiet (fail)
        go_wp2_with fail
        (try simp only [Exit.inBlock, Exit.then]); refine bodyPost_ret (results_tmp11 rfl _ _) rfl ?_
        exact ⟨tg, x1, nm, mk, y, aO, cO, F, bs, rfl, hM.dr _, HR.out, hMd⟩
end Go.Proofs.Qxb6601557a
