/-
  A slice of one-cell elements that the call itself has made (or nil): 'Own'; the walk's laws for 'make' and 'append' in its words. By an AI agent.
-/
import Derived.Test.Qxb6601557aBase
namespace Go.Proofs.Qxb6601557a
open Go.RowKit

def upd {α : Type} (f : Nat → α) (k : Nat) (v : α) : Nat → α := fun j => if j = k then v else f j

theorem upd_same {α : Type} (f : Nat → α) (k : Nat) (v : α) : upd f k v k = v := by simp [upd]
theorem upd_other {α : Type} (f : Nat → α) (k : Nat) (v : α) (j : Nat) (h : j ≠ k) : upd f k v j = f j := by simp [upd, h]
theorem upd_map {α β : Type} (g : α → β) (f : Nat → α) (k : Nat) (v : α) (j : Nat) : upd (fun i => g (f i)) k (g v) j = g (upd f k v j) := by
  unfold upd; split <;> rfl

/-- nil, or the head of a block in S that no one else's: n elements of cap, cell j holds f j. -/
def Own (S : Nat → Prop) (e : TypeId) (w : World) (a : Option Addr) (n cap : Nat) (f : Nat → Value) : Prop :=
  (a = none ∧ n = 0 ∧ cap = 0) ∨
  ∃ g cur, a = some ⟨g, 0, none⟩ ∧ S g ∧ w.heap[g]? = some (.cells cur e (0, 0)) ∧ n ≤ cap ∧ cap ≤ maxLen ∧ cur.size = cap ∧ ∀ j, j < n → cur[j]? = some (f j)

section
variable {S T : Nat → Prop} {e : TypeId} {w w' : World} {a : Option Addr} {n cap : Nat} {f f' : Nat → Value}

theorem Own.rd (h : Own S e w a n cap f) : Rd S w a n f := by
  intro j hj
  rcases h with ⟨_, h0, _⟩ | ⟨g, cur, rfl, hS, hg, _, _, _, hc⟩
  · omega
  · refine ⟨g, 0, rfl, hS, ?_⟩
    rw [Nat.zero_add, cell_of_row w g j cur e (0, 0) hg]
    exact hc j hj

theorem Own.kept (h : Own S e w a n cap f) (hb : ∀ k, S k → k < w.heap.size → w'.heap[k]? = w.heap[k]?) : Own S e w' a n cap f := by
  rcases h with h | ⟨g, cur, rfl, hS, hg, h1, h2, h3, h4⟩
  · exact .inl h
  · exact .inr ⟨g, cur, rfl, hS, (hb g hS (Array.getElem?_eq_some_iff.1 hg).1).trans hg, h1, h2, h3, h4⟩

theorem Own.ext (h : Own S e w a n cap f) (hx : Ext T w w') (hd : ∀ k, S k → ¬ T k) : Own S e w' a n cap f :=
  h.kept (fun k hS hk => hx.block k hk (hd k hS))

theorem Own.mono (h : Own S e w a n cap f) (hST : ∀ k, S k → T k) : Own T e w a n cap f := by
  rcases h with h | ⟨g, cur, rfl, hS, r⟩
  · exact .inl h
  · exact .inr ⟨g, cur, rfl, hST g hS, r⟩

theorem Own.congr (h : Own S e w a n cap f) (hf : ∀ j, j < n → f j = f' j) : Own S e w a n cap f' := by
  rcases h with h | ⟨g, cur, rfl, hS, hg, h1, h2, h3, h4⟩
  · exact .inl h
  · exact .inr ⟨g, cur, rfl, hS, hg, h1, h2, h3, fun j hj => (h4 j hj).trans (by rw [hf j hj])⟩

theorem Own.nil : Own S e w none 0 0 f := .inl ⟨rfl, rfl, rfl⟩

theorem Own.le (h : Own S e w a n cap f) : n ≤ cap ∧ cap ≤ maxLen := by
  rcases h with ⟨_, rfl, rfl⟩ | ⟨g, cur, rfl, hS, hg, h1, h2, h3, h4⟩
  · simp
  · exact ⟨h1, h2⟩

theorem Own.none_zero (h : Own S e w a n cap f) (ha : a = none) : n = 0 := by
  rcases h with ⟨_, h0, _⟩ | ⟨g, cur, rfl, _⟩
  · exact h0
  · cases ha

/-- the cell j: what it holds; that it may be written; what is owned behind the store. -/
theorem Own.at (h : Own S e w a n cap f) (j : Nat) (hj : j < n) : ∃ g, a = some ⟨g, 0, none⟩ ∧ S g ∧ g < w.heap.size ∧ w.cell? ⟨g, j, none⟩ = some (f j) ∧ w.frozen? ⟨g, j, none⟩ = false ∧
    ∀ v, Own S e (w.setCell ⟨g, j, none⟩ v) (some ⟨g, 0, none⟩) n cap (upd f j v) := by
  rcases h with ⟨_, h0, _⟩ | ⟨g, cur, rfl, hS, hg, h1, h2, h3, h4⟩
  · omega
  · refine ⟨g, rfl, hS, (Array.getElem?_eq_some_iff.1 hg).1, (cell_of_row w g j cur e (0, 0) hg).trans (h4 j hj), frozen_of_row w g j cur e hg, fun v => .inr ⟨g, cur.setIfInBounds j v, rfl, hS, heap_setCell_same w g j cur e v hg, h1, h2, by simpa using h3, ?_⟩⟩
    intro i hi
    rw [Array.getElem?_setIfInBounds]
    unfold upd
    by_cases hij : i = j
    · subst hij
      rw [if_pos rfl, if_pos rfl, if_pos (by omega)]
    · rw [if_neg (Ne.symm hij), if_neg hij]
      exact h4 i hi

/-- a shorter slice of it: 's[:k]'. -/
theorem Own.cut (h : Own S e w a n cap f) (k : Nat) (hk : k ≤ n) : Own S e w a k cap f := by
  rcases h with ⟨h1, h2, h3⟩ | ⟨g, cur, rfl, hS, hg, h1, h2, h3, h4⟩
  · exact .inl ⟨h1, by omega, h3⟩
  · exact .inr ⟨g, cur, rfl, hS, hg, by omega, h2, h3, fun j hj => h4 j (by omega)⟩

end

/-- 'make([]T, n)', T of one cell: n zeros in a new block. -/
theorem run_mk {P : Program} (w : World) (t e : TypeId) (z : Value) (bytes : Nat) (h1 : P.underlying t = some (.slice e)) (hinfo : (P.info? e).map (fun i => (i.zero, i.size, i.bytes)) = some (some z, 1, bytes)) (hz : z.cells = #[z])
    (n : Nat) (hb : bytes * n ≤ 281474976710656) (hm : n ≤ 9223372036854775807) :
    ∃ w', (Instr.makeSlice t (.int .i64 (n : Int)) (.int .i64 (n : Int))).run P w = .ok (.slice (some ⟨w.heap.size, 0, none⟩) n n) w' ∧
      Own (fun k => k = w.heap.size) e w' (some ⟨w.heap.size, 0, none⟩) n n (fun _ => z) ∧ Ext (fun _ => False) w w' ∧ w'.heap.size = w.heap.size + 1 := by
  obtain ⟨i, hi, hz0, hz1, hz2⟩ := info_parts hinfo
  subst hz2
  have hb' : (i.bytes : Int) * (n : Int) ≤ 281474976710656 := by
    have h : ((i.bytes * n : Nat) : Int) ≤ 281474976710656 := by omega
    rwa [Int.natCast_mul] at h
  have hr := run_make (P := P) w t e i z h1 hi hz0 .i64 .i64 n n (by omega) (Int.le_refl _) hb' (by omega)
  simp only [Int.toNat_natCast, hz1, hz, Nat.mul_one] at hr
  refine ⟨_, hr, .inr ⟨w.heap.size, _, rfl, rfl, heap_alloc_new w _, Nat.le_refl _, by unfold maxLen; omega, by simp [madeCells], ?_⟩, (Ext.refl _ _).alloc _, by simp⟩
  intro j hj
  simp [madeCells, hj, Nat.mod_one]

theorem wpList_mk {P : Program} (w : World) {ops : Array Oper} {rest : List Oper} {o : Oper} {a : Act} {Q : Exit → Act → World → Prop}
    (hg : o.guard = none) (l c : Operand) (t : TypeId) (hop : o.op = Op.makeSlice t l c)
    (e : TypeId) (z : Value) (bytes : Nat) (h1 : P.underlying t = some (.slice e)) (hinfo : (P.info? e).map (fun i => (i.zero, i.size, i.bytes)) = some (some z, 1, bytes)) (hz : z.cells = #[z])
    (L C : Int) (n : Nat) (hl : a.eval l = .int .i64 L) (hc : a.eval c = .int .i64 C) (hL : L = (n : Int)) (hC : C = (n : Int)) (hb : bytes * n ≤ 281474976710656) (hm : n ≤ 9223372036854775807)
    (hK : ∀ w', Own (fun k => k = w.heap.size) e w' (some ⟨w.heap.size, 0, none⟩) n n (fun _ => z) → Ext (fun _ => False) w w' → w'.heap.size = w.heap.size + 1 → wpList P ops Q rest (a.put o.dst (.slice (some ⟨w.heap.size, 0, none⟩) n n)) w') :
    wpList P ops Q (o :: rest) a w := by
  refine wpList_plain hg fun K hK' => ?_
  obtain ⟨w', hrun, r1, r2, r3⟩ := run_mk (P := P) w t e z bytes h1 hinfo hz n hb hm
  subst hL
  subst hC
  unfold Oper.wp
  simp [execOp, hop, hl, hc, hrun, Result.andThen]
  exact hK' _ _ (hK w' r1 r2 r3)

/-- 'append(s, x)', one element of one cell: in place, or in a new block. -/
theorem run_app {P : Program} (w : World) (t ty e : TypeId) (z : Value) (bytes : Nat) (h1 : P.underlying t = some (.slice e)) (hinfo : (P.info? e).map (fun i => (i.zero, i.size, i.bytes)) = some (some z, 1, bytes)) (hz : z.cells = #[z])
    (S : Nat → Prop) (a : Option Addr) (n cap : Nat) (f : Nat → Value) (hown : Own S e w a n cap f) (ad : Addr) (c : Nat) (u : Value) (hu : w.cell? ad = some u) (hu1 : u.oneCell' = true)
    (hb : (n + 1) * bytes ≤ 140737488355328) (hn : n + 1 ≤ 9223372036854775807) :
    ∃ a' cap' w', (Builtin.append_ #[t, t] ty #[.slice a n cap, .slice (some ad) 1 c]).run P w = .ok (.slice a' (n + 1) cap') w' ∧
      Own (fun k => S k ∨ k = w.heap.size) e w' a' (n + 1) cap' (upd f n u) ∧ Ext S w w' ∧ w'.heap.size ≤ w.heap.size + 1 := by
  obtain ⟨i, hi, hz0, hz1, hz2⟩ := info_parts hinfo
  subst hz2
  have hnews : ∀ (j : Nat) (v : Value), ([u] : List Value)[j]? = some v → w.cell? (ad.add j) = some v := by
    intro j v hj
    match j, hj with
    | 0, hj => simp at hj; subst hj; simpa [Addr.add] using hu
  have hl1 : ([u] : List Value).length = 1 * i.size := by simp [hz1]
  have hone : ∀ v ∈ ([u] : List Value), v.oneCell' = true := by intro v hv; simp at hv; subst hv; exact hu1
  have fresh : ∀ (xs : List Value) (old : Nat), xs.length = n → (∀ j, j < n → xs[j]? = some (f j)) →
      Own (fun k => S k ∨ k = w.heap.size) e (w.drew.alloc (.cells (xs.toArray ++ ([u] : List Value).toArray ++ Builtin.zeroCells z.cells (grownCap w (n + 1) old e - (n + 1))) e))
        (some ⟨w.heap.size, 0, none⟩) (n + 1) (grownCap w (n + 1) old e) (upd f n u) := by
    intro xs old hxl hxs
    have hge := grownCap_ge w (n + 1) old e
    refine .inr ⟨w.heap.size, _, rfl, .inr rfl, heap_alloc_new w.drew _, hge, grownCap_le_maxLen w (n + 1) old e (by unfold maxLen; omega), ?_, ?_⟩
    · simp only [Array.size_append, List.size_toArray, size_zeroCells, hz, hxl, List.length_cons, List.length_nil]
      simp
      omega
    · intro j hj
      by_cases hjn : j = n
      · subst hjn
        rw [upd_same, Array.getElem?_append_left (by simp [hxl]), Array.getElem?_append_right (by simp [hxl])]
        simp [hxl]
      · rw [upd_other _ _ _ _ hjn, Array.getElem?_append_left (by simp [hxl]; omega), Array.getElem?_append_left (by simp [hxl]; omega)]
        simpa using hxs j (by omega)
  rcases hown with ⟨rfl, rfl, rfl⟩ | ⟨g, cur, rfl, hS, hg, hnc, hcm, hcs, hcells⟩
  · have hr := run_append_nil (P := P) w t ty e i z h1 hi hz0 ad 1 c [u] hl1 hnews (by omega) (by omega) (by omega)
    refine ⟨_, _, _, hr, ?_, ((Ext.refl _ _).drew).alloc _, by simp⟩
    have := fresh [] 0 rfl (fun j hj => absurd hj (Nat.not_lt_zero j))
    simpa using this
  · by_cases hroom : n + 1 ≤ cap
    · have hfit : n * i.size + ([u] : List Value).length ≤ cur.size := by simp [hz1, hcs]; omega
      have hr := run_append_room (P := P) w t ty e i h1 hi g n cap cur hg ad 1 c [u] hl1 hnews hone hroom hfit
      refine ⟨_, _, _, hr, .inr ⟨g, _, rfl, .inl hS, setRow_heap w g cur _ e _ hg, hroom, hcm, ?_, ?_⟩, ?_, by simp⟩
      · simp only [List.size_toArray, List.length_append, List.length_take, List.length_drop, Array.length_toList, hz1, hcs]
        simp
        omega
      · intro j hj
        rw [hz1, Nat.mul_one, List.getElem?_toArray]
        by_cases hjn : j = n
        · subst hjn
          rw [upd_same, List.append_assoc, List.getElem?_append_right (by simp; omega)]
          simp [show min j cur.size = j by omega]
        · rw [upd_other _ _ _ _ hjn, List.append_assoc, List.getElem?_append_left (by simp; omega), List.getElem?_take_of_lt (by omega)]
          simpa using hcells j (by omega)
      · exact ⟨rfl, rfl, rfl, by simp, fun k _ hk => setRow_other w g k _ (fun e => hk (e ▸ hS))⟩
    · have hlo : ((List.range n).map f).length = n * i.size := by simp [hz1]
      have holds : ∀ j v, ((List.range n).map f)[j]? = some v → w.cell? ((⟨g, 0, none⟩ : Addr).add j) = some v := by
        intro j v hv
        have hj : j < n := by
          have := (List.getElem?_eq_some_iff.1 hv).1
          simpa using this
        simp [hj] at hv
        subst hv
        rw [Addr.add_lit, Nat.zero_add, cell_of_row w g j cur e (0, 0) hg]
        exact hcells j hj
      have hr := run_append_grow (P := P) w t ty e i z h1 hi hz0 ⟨g, 0, none⟩ n cap ((List.range n).map f) hlo holds ad 1 c [u] hl1 hnews (by omega) (by omega) (growslice_fits (by omega) hb)
      refine ⟨_, _, _, hr, ?_, ((Ext.refl _ _).drew).alloc _, by simp⟩
      exact fresh ((List.range n).map f) cap (by simp) (fun j hj => by simp [hj])

theorem wpList_app {P : Program} (w : World) {ops : Array Oper} {rest : List Oper} {o : Oper} {a : Act} {Q : Exit → Act → World → Prop}
    (hgd : o.guard = none) (s x : Operand) (t : TypeId) (ho : o.op = .call { callee := .builtin .append, args := #[s, x], argTypes := #[t, t] })
    (e : TypeId) (z : Value) (bytes : Nat) (h1 : P.underlying t = some (.slice e)) (hinfo : (P.info? e).map (fun i => (i.zero, i.size, i.bytes)) = some (some z, 1, bytes)) (hz : z.cells = #[z])
    (S : Nat → Prop) (ao : Option Addr) (n cap : Nat) (f : Nat → Value) (hs : a.eval s = .slice ao n cap) (hown : Own S e w ao n cap f) (ad : Addr) (c : Nat) (u : Value) (hx : a.eval x = .slice (some ad) 1 c)
    (hu : w.cell? ad = some u) (hu1 : u.oneCell' = true) (hb : (n + 1) * bytes ≤ 140737488355328) (hn : n + 1 ≤ 9223372036854775807)
    (h : ∀ a' cap' w', Own (fun k => S k ∨ k = w.heap.size) e w' a' (n + 1) cap' (upd f n u) → Ext S w w' → w'.heap.size ≤ w.heap.size + 1 → wpList P ops Q rest (a.put o.dst (.slice a' (n + 1) cap')) w') :
    wpList P ops Q (o :: rest) a w := by
  refine wpList_plain hgd fun K hK' => ?_
  obtain ⟨a', cap', w', hr, r1, r2, r3⟩ := run_app (P := P) w t o.type e z bytes h1 hinfo hz S ao n cap f hown ad c u hu hu1 hb hn
  unfold Oper.wp execOp
  simp only [ho, resolve, invoke, builtin, Sem.run_bind, Sem.run_pure, Result.andThen_ok, List.map_toArray, List.map_cons, List.map_nil, hs, hx, hr]
  exact hK' _ _ (h a' cap' w' r1 r2 r3)

/-- the one cell of a block just laid, its number spelt as the walk spells it. -/
theorem cell_new1 (W : World) (v : Value) (e : TypeId) (b : Nat) (h : W.heap.size = b) : (W.alloc (.cells #[v] e)).cell? ⟨b, 0, none⟩ = some v := by
  subst h
  simp

theorem info3 : (Try.prog.info? 3).map (fun i => (i.zero, i.size, i.bytes)) = some (some (.int .i64 0), 1, 8) := by kernel_rfl
theorem info4 : (Try.prog.info? 4).map (fun i => (i.zero, i.size, i.bytes)) = some (some (.bool false), 1, 1) := by kernel_rfl
theorem info39 : (Try.prog.info? 39).map (fun i => (i.zero, i.size, i.bytes)) = some (some (.int .i8 0), 1, 1) := by kernel_rfl
theorem info24 : (Try.prog.info? 24).map (fun i => (i.zero, i.size, i.bytes)) = some (some (.slice none 0 0), 1, 24) := by kernel_rfl

end Go.Proofs.Qxb6601557a
