/-
  More operations for a region that draws: a value, a store. By an AI agent.
-/
import Derived.Test.Qxb6601557aGood
import Derived.Test.Qxb6601557aFM
namespace Go.Proofs.Qxb6601557a
set_option linter.unusedVariables false
open Go.RowKit

section
variable {P : Program} {l : List Oper} {Q : Exit → Act → World → Prop} {a0 : Act} {R : (Nat → Option Value) → World → Prop} {i : Nat}

theorem goodVal {o : Oper} (h : ∀ m a w, R m w → m i = none → Told l a0 o m a → ∃ u w', (execOp a.eval o).run P w = .ok (.value u) w' ∧ R (updO m i u) w') : GoodOp P l Q a0 R i o := by
  intro m a w hR hm h1 h2
  obtain ⟨u, w', e, h3⟩ := h m a w hR hm ⟨h1, h2⟩
  unfold Oper.wp
  rw [e, Oper.upon_value]
  exact ⟨_, rfl, h3⟩

theorem goodSkip {o : Oper} (h : ∀ m a w, R m w → m i = none → Told l a0 o m a → ∃ w', (execOp a.eval o).run P w = .ok .skip w' ∧ R (updO m i undef) w') : GoodOp P l Q a0 R i o := by
  intro m a w hR hm h1 h2
  obtain ⟨w', e, h3⟩ := h m a w hR hm ⟨h1, h2⟩
  unfold Oper.wp
  rw [e, Oper.upon_skip]
  exact ⟨_, rfl, h3⟩
end

section
variable {a : Act} {w : World}
theorem run_nil {o : Oper} (x : Operand) (ho : o.op = .nilCheck x) (p : Addr) (hx : a.eval x = .pointer (some p)) : (execOp a.eval o).run Try.prog w = .ok (.value (.pointer (some p))) w := by
  unfold execOp; simp [ho, hx]
theorem run_fld {o : Oper} (x : Operand) (j : Nat) (hj : j = 0 ∨ j = 3 ∨ j = 6) (ho : o.op = .fieldAddr 66 x j) (b : Nat) (hx : a.eval x = .pointer (some ⟨b, 0, none⟩)) : (execOp a.eval o).run Try.prog w = .ok (.value (.pointer (some ⟨b, j, none⟩))) w := by
  unfold execOp
  rcases hj with rfl | rfl | rfl <;> simp [ho, hx] <;> go_simp
theorem run_ld {o : Oper} (t : TypeId) (ht : t = 22 ∨ t = 24 ∨ t = 3 ∨ t = 64) (x : Operand) (ho : o.op = .load t x) (p : Addr) (hx : a.eval x = .pointer (some p)) (v : Value) (hv : w.cell? p = some v) : (execOp a.eval o).run Try.prog w = .ok (.value v) w := by
  unfold execOp
  rcases ht with rfl | rfl | rfl | rfl <;> simp [ho, hx] <;> go_simp
theorem run_idx {o : Oper} (x y : Operand) (ho : o.op = .indexAddr 22 x y) (g n c q : Nat) (hx : a.eval x = .slice (some ⟨g, 0, none⟩) n c) (hy : a.eval y = .int .i64 (q : Int)) (hq : q < n) (hn : n ≤ 1048576) : (execOp a.eval o).run Try.prog w = .ok (.value (.pointer (some ⟨g, q, none⟩))) w := by
  have h1 : (q : Int) < (n : Int) := by omega
  unfold execOp
  simp [ho, hx, hy]
  go_simp
theorem run_bld {o : Oper} (x : Operand) (ho : o.op = .buildSlice 24 1 #[(0, x)]) (z : Int) (hx : a.eval x = .int .i64 z) : (execOp a.eval o).run Try.prog w = .ok (.value (.slice (some ⟨w.heap.size, 0, none⟩) 1 1)) (w.alloc (.cells #[.int .i64 z] 3)) := by
  unfold execOp
  simp [ho, hx]
  go_simp
theorem run_apd {o : Oper} (s x : Operand) (t : TypeId) (ho : o.op = .call { callee := .builtin .append, args := #[s, x], argTypes := #[t, t] }) (v : Value) (w' : World) (hr : (Builtin.append_ #[t, t] o.type #[a.eval s, a.eval x]).run Try.prog w = .ok v w') : (execOp a.eval o).run Try.prog w = .ok (.value v) w' := by
  unfold execOp
  simp only [ho, resolve, invoke, builtin, Sem.run_bind, Sem.run_pure, Result.andThen_ok, List.map_toArray, List.map_cons, List.map_nil, hr]
theorem run_len24 {o : Oper} (t : TypeId) (s : Operand) (ho : o.op = .call { callee := .builtin .len, args := #[s], argTypes := #[t] }) (ht : t = 64) (p : Option Addr) (n c : Nat) (hs : a.eval s = .slice p n c) : (execOp a.eval o).run Try.prog w = .ok (.value (.int .i64 (n : Int))) w := by
  subst ht
  unfold execOp
  simp [ho, hs, resolve, invoke, builtin]
  go_simp
theorem run_sub1 {o : Oper} (x y : Operand) (ho : o.op = .binOp .sub 3 x y 3) (p q : Int) (hx : a.eval x = .int .i64 p) (hy : a.eval y = .int .i64 q) : (execOp a.eval o).run Try.prog w = .ok (.value (.int .i64 (wrap64 (p - q)))) w := by
  unfold execOp
  simp [ho, hx, hy]
  go_simp
  rw [IntKind.wrap_i64]; unfold wrap64; rfl
theorem run_sto {o : Oper} (t : TypeId) (ht : t = 24 ∨ t = 64) (x y : Operand) (ho : o.op = .store t x y) (p : Addr) (hx : a.eval x = .pointer (some p)) (b : Option Addr) (n c : Nat) (hy : a.eval y = .slice b n c) (old : Value) (hc : w.cell? p = some old) (hf : w.frozen? p = false) : (execOp a.eval o).run Try.prog w = .ok .skip (w.setCell p (.slice b n c)) := by
  unfold execOp
  rcases ht with rfl | rfl <;> simp [ho, hx, hy] <;> go_simp
theorem run_ld4 {o : Oper} (x : Operand) (ho : o.op = .load 68 x) (b : Nat) (hx : a.eval x = .pointer (some ⟨b, 0, none⟩)) (z0 z1 z2 z3 : Int) (h0 : w.cell? ⟨b, 0, none⟩ = some (.int .i64 z0)) (h1 : w.cell? ⟨b, 1, none⟩ = some (.int .i64 z1)) (h2 : w.cell? ⟨b, 2, none⟩ = some (.int .i64 z2)) (h3 : w.cell? ⟨b, 3, none⟩ = some (.int .i64 z3)) :
    (execOp a.eval o).run Try.prog w = .ok (.value (.agg #[.int .i64 z0, .int .i64 z1, .int .i64 z2, .int .i64 z3])) w := by
  unfold execOp
  simp [ho, hx]
  go_simp
theorem run_bld4 {o : Oper} (x : Operand) (ho : o.op = .buildSlice 64 1 #[(0, x)]) (z0 z1 z2 z3 : Int) (hx : a.eval x = .agg #[.int .i64 z0, .int .i64 z1, .int .i64 z2, .int .i64 z3]) : (execOp a.eval o).run Try.prog w = .ok (.value (.slice (some ⟨w.heap.size, 0, none⟩) 1 1)) (w.alloc (.cells #[.int .i64 z0, .int .i64 z1, .int .i64 z2, .int .i64 z3] 68)) := by
  unfold execOp
  simp [ho, hx]
  go_simp
end

/-- 'append(s, x)', one element of four numbers. -/
theorem run_app4 {P : Program} (w : World) (t ty e : TypeId) (z : Value) (h1 : P.underlying t = some (.slice e)) (hinfo : (P.info? e).map (fun i => (i.zero, i.size, i.bytes)) = some (some z, 4, 32)) (hz : z.cells.size = 4)
    (S : Nat → Prop) (a : Option Addr) (n cap : Nat) (F : Nat → Nat → Int) (hown : Own4 S e w a n cap F) (ad : Addr) (c : Nat) (z0 z1 z2 z3 : Int)
    (hu : ∀ (j : Nat) (v : Value), ([.int .i64 z0, .int .i64 z1, .int .i64 z2, .int .i64 z3] : List Value)[j]? = some v → w.cell? (ad.add j) = some v) (f : Nat → Int) (hf0 : f 0 = z0) (hf1 : f 1 = z1) (hf2 : f 2 = z2) (hf3 : f 3 = z3)
    (hb : (n + 1) * 32 ≤ 140737488355328) (hn : n + 1 ≤ 9223372036854775807) :
    ∃ a' cap' w', (Builtin.append_ #[t, t] ty #[.slice a n cap, .slice (some ad) 1 c]).run P w = .ok (.slice a' (n + 1) cap') w' ∧
      Own4 (fun k => S k ∨ k = w.heap.size) e w' a' (n + 1) cap' (upd F n f) ∧ Ext S w w' := by
  obtain ⟨i, hi, hz0, hz1, hz2⟩ := info_parts hinfo
  have hl1 : ([.int .i64 z0, .int .i64 z1, .int .i64 z2, .int .i64 z3] : List Value).length = 1 * i.size := by simp [hz1]
  have hone : ∀ v ∈ ([.int .i64 z0, .int .i64 z1, .int .i64 z2, .int .i64 z3] : List Value), v.oneCell' = true := by
    intro v hv
    simp at hv
    rcases hv with rfl | rfl | rfl | rfl <;> rfl
  have hnew : ∀ i, i < 4 → ([.int .i64 z0, .int .i64 z1, .int .i64 z2, .int .i64 z3] : List Value)[i]? = some (.int .i64 (f i)) := by
    intro i hi
    match i, hi with
    | 0, _ => simp [hf0]
    | 1, _ => simp [hf1]
    | 2, _ => simp [hf2]
    | 3, _ => simp [hf3]
  have hnl : ([.int .i64 z0, .int .i64 z1, .int .i64 z2, .int .i64 z3] : List Value).length = 4 := rfl
  generalize hnews : ([.int .i64 z0, .int .i64 z1, .int .i64 z2, .int .i64 z3] : List Value) = news at *
  have fresh : ∀ (xs : List Value) (old : Nat), xs.length = 4 * n → (∀ j i, j < n → i < 4 → xs[4 * j + i]? = some (.int .i64 (F j i))) →
      Own4 (fun k => S k ∨ k = w.heap.size) e (w.drew.alloc (.cells (xs.toArray ++ news.toArray ++ Builtin.zeroCells z.cells (grownCap w (n + 1) old e - (n + 1))) e))
        (some ⟨w.heap.size, 0, none⟩) (n + 1) (grownCap w (n + 1) old e) (upd F n f) := by
    intro xs old hxl hxs
    have hge := grownCap_ge w (n + 1) old e
    refine .inr ⟨w.heap.size, _, rfl, .inr rfl, heap_alloc_new w.drew _, hge, grownCap_le_maxLen w (n + 1) old e (by unfold maxLen; omega), ?_, ?_⟩
    · simp only [Array.size_append, List.size_toArray, size_zeroCells, hz, hxl, hnl]
      omega
    · intro j i hj hi
      by_cases hjn : j = n
      · subst hjn
        rw [upd_same, Array.getElem?_append_left (by simp [hxl, hnl]; omega), Array.getElem?_append_right (by simp [hxl])]
        simp [hxl]
        exact hnew i hi
      · rw [upd_other _ _ _ _ hjn, Array.getElem?_append_left (by simp [hxl, hnl]; omega), Array.getElem?_append_left (by simp [hxl]; omega)]
        simpa using hxs j i (by omega) hi
  rcases hown with ⟨rfl, rfl, rfl⟩ | ⟨g, cur, rfl, hS, hg, hnc, hcm, hcs, hcells⟩
  · have hr := run_append_nil (P := P) w t ty e i z h1 hi hz0 ad 1 c news hl1 hu (by omega) (by omega) (by omega)
    refine ⟨_, _, _, hr, ?_, ((Ext.refl _ _).drew).alloc _⟩
    have := fresh [] 0 rfl (fun j i hj => absurd hj (Nat.not_lt_zero j))
    simpa using this
  · by_cases hroom : n + 1 ≤ cap
    · have hfit : n * i.size + news.length ≤ cur.size := by rw [hz1, hnl, hcs]; omega
      have hr := run_append_room (P := P) w t ty e i h1 hi g n cap cur hg ad 1 c news hl1 hu hone hroom hfit
      refine ⟨_, _, _, hr, .inr ⟨g, _, rfl, .inl hS, setRow_heap w g cur _ e _ hg, hroom, hcm, ?_, ?_⟩, ?_⟩
      · simp only [List.size_toArray, List.length_append, List.length_take, List.length_drop, Array.length_toList, hz1, hcs, hnl]
        omega
      · intro j i hj hi
        rw [hz1, List.getElem?_toArray]
        by_cases hjn : j = n
        · subst hjn
          rw [upd_same, List.append_assoc, List.getElem?_append_right (by simp; omega), List.getElem?_append_left (by simp [hnl]; omega)]
          rw [show 4 * j + i - (List.take (j * 4) cur.toList).length = i by simp; omega]
          exact hnew i hi
        · rw [upd_other _ _ _ _ hjn, List.append_assoc, List.getElem?_append_left (by simp; omega), List.getElem?_take_of_lt (by omega)]
          simpa using hcells j i (by omega) hi
      · exact ⟨rfl, rfl, rfl, by simp, fun k _ hk => setRow_other w g k _ (fun e => hk (e ▸ hS))⟩
    · have hlo : ((List.range (4 * n)).map (fun k => Value.int .i64 (F (k / 4) (k % 4)))).length = n * i.size := by simp [hz1]; omega
      have hval : ∀ j i, j < n → i < 4 → ((List.range (4 * n)).map (fun k => Value.int .i64 (F (k / 4) (k % 4))))[4 * j + i]? = some (.int .i64 (F j i)) := by
        intro j i hj hi
        have h4 : 4 * j + i < 4 * n := by omega
        have e1 : (4 * j + i) / 4 = j := by omega
        have e2 : (4 * j + i) % 4 = i := by omega
        simp [h4, e1, e2]
      have holds : ∀ j v, ((List.range (4 * n)).map (fun k => Value.int .i64 (F (k / 4) (k % 4))))[j]? = some v → w.cell? ((⟨g, 0, none⟩ : Addr).add j) = some v := by
        intro j v hv
        have hj : j < 4 * n := by
          have := (List.getElem?_eq_some_iff.1 hv).1
          simpa using this
        simp [hj] at hv
        subst hv
        rw [Addr.add_lit, Nat.zero_add, cell_of_row w g j cur e (0, 0) hg]
        have := hcells (j / 4) (j % 4) (by omega) (by omega)
        rwa [show 4 * (j / 4) + j % 4 = j by omega] at this
      have hr := run_append_grow (P := P) w t ty e i z h1 hi hz0 ⟨g, 0, none⟩ n cap _ hlo holds ad 1 c news hl1 hu (by omega) (by omega) (growslice_fits (by omega) (by rw [hz2]; exact hb))
      refine ⟨_, _, _, hr, ?_, ((Ext.refl _ _).drew).alloc _⟩
      exact fresh _ cap (by simp) hval

theorem info68 : (Try.prog.info? 68).map (fun i => (i.zero, i.size, i.bytes)) = some (some (.agg #[.int .i64 0, .int .i64 0, .int .i64 0, .int .i64 0]), 4, 32) := by kernel_rfl
theorem info42 : (Try.prog.info? 42).map (fun i => (i.zero, i.size, i.bytes)) = some (some (.agg #[.int .i64 0, .int .i64 0, .int .i64 0, .int .i64 0]), 4, 32) := by kernel_rfl

end Go.Proofs.Qxb6601557a
