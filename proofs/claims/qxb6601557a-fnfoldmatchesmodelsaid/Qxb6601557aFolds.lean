/-
  zzCopyFolds. By an AI agent.
-/
import Derived.Test.Qxb6601557aZZFold
namespace Go.Proofs.Qxb6601557a
set_option linter.unusedVariables false
open Go.RowKit

/-- a reading of elements of four numbers. -/
def Rd4 (S : Nat → Prop) (w : World) (a : Option Addr) (n : Nat) (F : Nat → Nat → Int) : Prop :=
  ∀ j, j < n → ∃ b off, a = some ⟨b, off, none⟩ ∧ S b ∧ w.cell? ⟨b, off + j * 4, none⟩ = some (.int .i64 (F j 0)) ∧ w.cell? ⟨b, off + j * 4 + 1, none⟩ = some (.int .i64 (F j 1)) ∧ w.cell? ⟨b, off + j * 4 + 2, none⟩ = some (.int .i64 (F j 2)) ∧ w.cell? ⟨b, off + j * 4 + 3, none⟩ = some (.int .i64 (F j 3))

theorem Rd4.ext {S T : Nat → Prop} {w w' : World} {a : Option Addr} {n : Nat} {F : Nat → Nat → Int} (h : Rd4 S w a n F) (hx : Ext T w w') (hd : ∀ k, S k → ¬ T k) : Rd4 S w' a n F := by
  intro j hj
  obtain ⟨b, off, ha, hS, c0, c1, c2, c3⟩ := h j hj
  exact ⟨b, off, ha, hS, cellX c0 hx (hd b hS), cellX c1 hx (hd b hS), cellX c2 hx (hd b hS), cellX c3 hx (hd b hS)⟩

theorem Rd4.mono {S T : Nat → Prop} {w : World} {a : Option Addr} {n : Nat} {F : Nat → Nat → Int} (h : Rd4 S w a n F) (hST : ∀ k, S k → T k) : Rd4 T w a n F := by
  intro j hj
  obtain ⟨b, off, ha, hS, r⟩ := h j hj
  exact ⟨b, off, ha, hST b hS, r⟩

theorem Rd4.nil0 {S : Nat → Prop} {w : World} {a : Option Addr} {n : Nat} {F : Nat → Nat → Int} (h : Rd4 S w a n F) (ha : a = none) : n = 0 := by
  rcases Nat.eq_zero_or_pos n with h0 | h0
  · exact h0
  · obtain ⟨_, _, e, _⟩ := h 0 h0; rw [ha] at e; cases e

theorem Own4.rd4 {S : Nat → Prop} {e : TypeId} {w : World} {a : Option Addr} {n cap : Nat} {F : Nat → Nat → Int} (h : Own4 S e w a n cap F) : Rd4 S w a n F := by
  intro j hj
  obtain ⟨g, ha, hS, _, c0, c1, c2, c3⟩ := h.at j hj
  exact ⟨g, 0, ha, hS, by rw [Nat.zero_add]; exact c0, by rw [Nat.zero_add]; exact c1, by rw [Nat.zero_add]; exact c2, by rw [Nat.zero_add]; exact c3⟩

/-- 'make([][4]int, n)'. -/
theorem run_mk44 {P : Program} (w : World) (t e : TypeId) (z : Value) (h1 : P.underlying t = some (.slice e)) (hinfo : (P.info? e).map (fun i => (i.zero, i.size, i.bytes)) = some (some z, 4, 32)) (hz : z.cells = #[.int .i64 0, .int .i64 0, .int .i64 0, .int .i64 0])
    (n : Nat) (hb : 32 * n ≤ 281474976710656) :
    ∃ w', (Instr.makeSlice t (.int .i64 (n : Int)) (.int .i64 (n : Int))).run P w = .ok (.slice (some ⟨w.heap.size, 0, none⟩) n n) w' ∧
      Own4 (fun k => k = w.heap.size) e w' (some ⟨w.heap.size, 0, none⟩) n n (fun _ _ => 0) ∧ Ext (fun _ => False) w w' ∧ w'.heap.size = w.heap.size + 1 := by
  obtain ⟨i, hi, hz0, hz1, hz2⟩ := info_parts hinfo
  have hb' : (i.bytes : Int) * (n : Int) ≤ 281474976710656 := by rw [hz2]; omega
  have hr := run_make (P := P) w t e i z h1 hi hz0 .i64 .i64 n n (by omega) (Int.le_refl _) hb' (by omega)
  simp only [Int.toNat_natCast, hz1, hz] at hr
  refine ⟨_, hr, .inr ⟨w.heap.size, _, rfl, rfl, heap_alloc_new w _, Nat.le_refl _, by unfold maxLen; omega, by simp [madeCells]; omega, ?_⟩, (Ext.refl _ _).alloc _, by simp⟩
  intro j k hj hk
  have h4 : 4 * j + k < n * 4 := by omega
  have e2 : (4 * j + k) % 4 = k := by omega
  simp [madeCells, h4, e2]
  match k, hk with
  | 0, _ => rfl
  | 1, _ => rfl
  | 2, _ => rfl
  | 3, _ => rfl

theorem wpList_mk44 {P : Program} (w : World) {ops : Array Oper} {rest : List Oper} {o : Oper} {a : Act} {Q : Exit → Act → World → Prop}
    (hg : o.guard = none) (l c : Operand) (t : TypeId) (hop : o.op = Op.makeSlice t l c)
    (e : TypeId) (z : Value) (h1 : P.underlying t = some (.slice e)) (hinfo : (P.info? e).map (fun i => (i.zero, i.size, i.bytes)) = some (some z, 4, 32)) (hz : z.cells = #[.int .i64 0, .int .i64 0, .int .i64 0, .int .i64 0])
    (L C : Int) (n : Nat) (hl : a.eval l = .int .i64 L) (hc : a.eval c = .int .i64 C) (hL : L = (n : Int)) (hC : C = (n : Int)) (hb : 32 * n ≤ 281474976710656)
    (hK : ∀ w', Own4 (fun k => k = w.heap.size) e w' (some ⟨w.heap.size, 0, none⟩) n n (fun _ _ => 0) → Ext (fun _ => False) w w' → w'.heap.size = w.heap.size + 1 → wpList P ops Q rest (a.put o.dst (.slice (some ⟨w.heap.size, 0, none⟩) n n)) w') :
    wpList P ops Q (o :: rest) a w := by
  refine wpList_plain hg fun K hK' => ?_
  obtain ⟨w', hrun, r1, r2, r3⟩ := run_mk44 (P := P) w t e z h1 hinfo hz n hb
  subst hL
  subst hC
  unfold Oper.wp
  simp [execOp, hop, hl, hc, hrun, Result.andThen]
  exact hK' _ _ (hK w' r1 r2 r3)

structure Copied4 (w w' : World) (a a' : Option Addr) (n : Nat) (F : Nat → Nat → Int) : Prop where
  own : Own4 (fun k => k = w.heap.size) 42 w' a' n n F
  ext : Ext (fun _ => False) w w'
  nil : a = none ↔ a' = none

/-- the same block, a cell an element. -/
theorem Own4.flat {S : Nat → Prop} {e : TypeId} {w : World} {g n : Nat} {F : Nat → Nat → Int} (h : Own4 S e w (some ⟨g, 0, none⟩) n n F) (hn : n ≤ 1048576) : Own S e w (some ⟨g, 0, none⟩) (4 * n) (4 * n) (fun c => .int .i64 (F (c / 4) (c % 4))) := by
  rcases h with ⟨h, _⟩ | ⟨g', cur, e1, hS, hg, h1, h2, h3, h4⟩
  · cases h
  · refine .inr ⟨g', cur, e1, hS, hg, Nat.le_refl _, by unfold maxLen; omega, h3, fun c hc => ?_⟩
    have := h4 (c / 4) (c % 4) (by omega) (by omega)
    rwa [show 4 * (c / 4) + c % 4 = c by omega] at this

theorem Own.four {S : Nat → Prop} {e : TypeId} {w : World} {g n : Nat} {F : Nat → Nat → Int} (h : Own S e w (some ⟨g, 0, none⟩) (4 * n) (4 * n) (fun c => .int .i64 (F (c / 4) (c % 4)))) (hn : n ≤ 1048576) : Own4 S e w (some ⟨g, 0, none⟩) n n F := by
  rcases h with ⟨h, _⟩ | ⟨g', cur, e1, hS, hg, h1, h2, h3, h4⟩
  · cases h
  · refine .inr ⟨g', cur, e1, hS, hg, Nat.le_refl _, by unfold maxLen; omega, h3, fun j i hj hi => ?_⟩
    have := h4 (4 * j + i) (by omega)
    dsimp only at this
    rwa [show (4 * j + i) / 4 = j by omega, show (4 * j + i) % 4 = i by omega] at this

structure Cping4 (w wr : World) (n k : Nat) (F : Nat → Nat → Int) : Prop where
  own : Own (fun k => k = w.heap.size) 42 wr (some ⟨w.heap.size, 0, none⟩) (4 * n) (4 * n) (fun c => .int .i64 (if c / 4 < k then F (c / 4) (c % 4) else 0))
  ext : Ext (fun _ => False) w wr

def set4 (w : World) (g o : Nat) (z0 z1 z2 z3 : Int) : World := (((w.setCell ⟨g, o, none⟩ (.int .i64 z0)).setCell ⟨g, o + 1, none⟩ (.int .i64 z1)).setCell ⟨g, o + 2, none⟩ (.int .i64 z2)).setCell ⟨g, o + 3, none⟩ (.int .i64 z3)

/-- four cells written. -/
structure Four (w : World) (g o : Nat) (z0 z1 z2 : Int) : Prop where
  c0 : ∃ v, w.cell? ⟨g, o, none⟩ = some v
  f0 : w.frozen? ⟨g, o, none⟩ = false
  c1 : ∃ v, (w.setCell ⟨g, o, none⟩ (.int .i64 z0)).cell? ⟨g, o + 1, none⟩ = some v
  f1 : (w.setCell ⟨g, o, none⟩ (.int .i64 z0)).frozen? ⟨g, o + 1, none⟩ = false
  c2 : ∃ v, ((w.setCell ⟨g, o, none⟩ (.int .i64 z0)).setCell ⟨g, o + 1, none⟩ (.int .i64 z1)).cell? ⟨g, o + 2, none⟩ = some v
  f2 : ((w.setCell ⟨g, o, none⟩ (.int .i64 z0)).setCell ⟨g, o + 1, none⟩ (.int .i64 z1)).frozen? ⟨g, o + 2, none⟩ = false
  c3 : ∃ v, (((w.setCell ⟨g, o, none⟩ (.int .i64 z0)).setCell ⟨g, o + 1, none⟩ (.int .i64 z1)).setCell ⟨g, o + 2, none⟩ (.int .i64 z2)).cell? ⟨g, o + 3, none⟩ = some v
  f3 : (((w.setCell ⟨g, o, none⟩ (.int .i64 z0)).setCell ⟨g, o + 1, none⟩ (.int .i64 z1)).setCell ⟨g, o + 2, none⟩ (.int .i64 z2)).frozen? ⟨g, o + 3, none⟩ = false

theorem Own.four4 {S : Nat → Prop} {e : TypeId} {w : World} {g n cap : Nat} {f : Nat → Value} (h : Own S e w (some ⟨g, 0, none⟩) n cap f) (o : Nat) (ho : o + 3 < n) (z0 z1 z2 z3 : Int) :
    Four w g o z0 z1 z2 ∧ Own S e (set4 w g o z0 z1 z2 z3) (some ⟨g, 0, none⟩) n cap (upd (upd (upd (upd f o (.int .i64 z0)) (o + 1) (.int .i64 z1)) (o + 2) (.int .i64 z2)) (o + 3) (.int .i64 z3)) := by
  obtain ⟨g0, e0, _, _, c0, f0, p0⟩ := h.at o (by omega)
  obtain rfl : g = g0 := by simpa using e0
  obtain ⟨g1, e1, _, _, c1, f1, p1⟩ := (p0 (.int .i64 z0)).at (o + 1) (by omega)
  obtain rfl : g = g1 := by simpa using e1
  obtain ⟨g2, e2, _, _, c2, f2, p2⟩ := (p1 (.int .i64 z1)).at (o + 2) (by omega)
  obtain rfl : g = g2 := by simpa using e2
  obtain ⟨g3, e3, _, _, c3, f3, p3⟩ := (p2 (.int .i64 z2)).at (o + 3) ho
  obtain rfl : g = g3 := by simpa using e3
  exact ⟨⟨⟨_, c0⟩, f0, ⟨_, c1⟩, f1, ⟨_, c2⟩, f2, ⟨_, c3⟩, f3⟩, p3 _⟩

theorem Cping4.step {w wr : World} {n k : Nat} {F : Nat → Nat → Int} (h : Cping4 w wr n k F) (hk : k < n) : Four wr w.heap.size (k * 4) (F k 0) (F k 1) (F k 2) ∧ Cping4 w (set4 wr w.heap.size (k * 4) (F k 0) (F k 1) (F k 2) (F k 3)) n (k + 1) F := by
  obtain ⟨h1, h2⟩ := h.own.four4 (k * 4) (by omega) (F k 0) (F k 1) (F k 2) (F k 3)
  refine ⟨h1, h2.congr (fun c hc => ?_), ?_⟩
  · by_cases e : c / 4 = k
    · have hc4 : c = k * 4 + c % 4 := by omega
      have hlt : c % 4 < 4 := Nat.mod_lt _ (by omega)
      rw [if_pos (by omega), e]
      generalize c % 4 = r at *
      subst hc4
      match r, hlt with
      | 0, _ => simp [upd]
      | 1, _ => simp [upd]
      | 2, _ => simp [upd]
      | 3, _ => simp [upd]
    · rw [upd_other _ _ _ _ (by omega), upd_other _ _ _ _ (by omega), upd_other _ _ _ _ (by omega), upd_other _ _ _ _ (by omega)]
      have e2 : (c / 4 < k) = (c / 4 < k + 1) := by apply propext; omega
      simp only [e2]
  · unfold set4
    exact (((h.ext.setCell (fun hlt => absurd hlt (Nat.lt_irrefl _)) _).setCell (fun hlt => absurd hlt (Nat.lt_irrefl _)) _).setCell (fun hlt => absurd hlt (Nat.lt_irrefl _)) _).setCell (fun hlt => absurd hlt (Nat.lt_irrefl _)) _

set_option maxHeartbeats 1000000 in
set_option maxRecDepth 100000 in
theorem copyFolds_any (S : Nat → Prop) (a : Option Addr) (n cap : Nat) (F : Nat → Nat → Int) (w : World) (hbig : n ≤ 1048576) (hr : Rd4 S w a n F) (hnil : a = none → n = 0) :
    Calls Try.prog 16 #[.slice a n cap] w fun e w' => ∃ a', e = .returned (.slice a' n n) ∧ Copied4 w w' a a' n F := by
  have hnl := fun (w : World) (a : Option Addr) (n c : Nat) => Lib.run_eql_slice_nil (P := Try.prog) w 25 42 a n c 0 0 Try.underlying25
  cases a with
  | none =>
    obtain rfl : n = 0 := hnil rfl
    go_enter Try.func16, Try.ntmps16
    go_wp2_with fail
    go_ret
    exact ⟨none, rfl, .inl ⟨rfl, rfl, rfl⟩, Ext.refl _ _, Iff.rfl⟩
  | some ad =>
    go_enter Try.func16, Try.ntmps16
    go_wp2_with (at_make; refine wpList_mk44 _ rfl _ _ 25 rfl 42 _ Try.underlying25 info42 rfl _ _ n rfl rfl rfl rfl (by omega) ?_)
    intro w1 hown hext hsz
    have HC : Cping4 w w1 n 0 F := ⟨(hown.flat (by omega)).congr (fun c _ => by simp), hext⟩
    clear hown hext hsz
    go_wp2_with fail
    go_loopw [4] (fun i wr => ∃ k : Nat, k ≤ n ∧ i = .int .i64 k ∧ Cping4 w wr n k F) (fun i _ => n - (intOf i).toNat)
    case atStart => exact ⟨0, Nat.zero_le _, rfl, HC⟩
    case round =>
      clear HC
      obtain ⟨k, hk, rfl, hcp⟩ := hrel
      by_cases hlt : k < n
      · obtain ⟨b, off, hab, _, c0, c1, c2, c3⟩ := (hr.ext hcp.ext (fun _ _ h => h)) k hlt
        obtain rfl : ad = ⟨b, off, none⟩ := by simpa using hab
        obtain ⟨⟨⟨v0, x0⟩, f0, ⟨v1, x1⟩, f1, ⟨v2, x2⟩, f2, ⟨v3, x3⟩, f3⟩, hst⟩ := hcp.step hlt
        unfold set4 at hst
        clear hcp
        generalize F k 0 = z0 at *
        generalize F k 1 = z1 at *
        generalize F k 2 = z2 at *
        generalize F k 3 = z3 at *
        go_wp2_with fail
        go_roundw
        case rel => exact ⟨k + 1, by omega, by go_num, hst⟩
        case measure => simp [intOf]; omega
      · obtain rfl : k = n := by omega
        go_wp2_with fail
        go_ret
        exact ⟨_, rfl, (hcp.own.congr (f' := fun c => .int .i64 (F (c / 4) (c % 4))) (fun c hc => by rw [if_pos (by omega)])).four (by omega), hcp.ext, by simp⟩
end Go.Proofs.Qxb6601557a
