/-
  ZZCliques. By an AI agent.
-/
import Derived.Test.Qxb6601557aCliq
namespace Go.Proofs.Qxb6601557a
set_option linter.unusedVariables false
open Go.RowKit

theorem Rd.lt {S : Nat → Prop} {w : World} {a : Option Addr} {n : Nat} {f : Nat → Value} (h : Rd S w a n f) : Rd (fun k => S k ∧ k < w.heap.size) w a n f := by
  intro j hj
  obtain ⟨b, off, ha, hS, hc⟩ := h j hj
  exact ⟨b, off, ha, ⟨hS, World.block_lt_of_cell? w _ hc⟩, hc⟩

theorem RdAdj.lt {S : Nat → Prop} {w : World} {a : Option Addr} {n : Nat} {d : Nat → Nat} {A : Nat → Nat → Int} (h : RdAdj S w a n d A) : RdAdj (fun k => S k ∧ k < w.heap.size) w a n d A := by
  intro p hp
  obtain ⟨b, off, ra, rc, ha, hS, hc, hm, hr⟩ := h p hp
  exact ⟨b, off, ra, rc, ha, ⟨hS, World.block_lt_of_cell? w _ hc⟩, hc, hm, hr.lt⟩

/-- a whole block of cells, just laid. -/
theorem Own.fresh (S : Nat → Prop) (w : World) (cs : Array Value) (e : TypeId) (n : Nat) (f : Nat → Value) (hS : S w.heap.size) (hn : cs.size = n) (hm : n ≤ 1000) (hf : ∀ j, j < n → cs[j]? = some (f j)) : Own S e (w.alloc (.cells cs e)) (some ⟨w.heap.size, 0, none⟩) n n f :=
  .inr ⟨w.heap.size, cs, rfl, hS, heap_alloc_new w _, Nat.le_refl _, by unfold maxLen; omega, hn, hf⟩

/-- what ZZCliques and ZZTriangleThread are given. -/
structure ZIn (w : World) (bsc : Nat) (S : Nat → Prop) (n : Nat) (d : Nat → Nat) (N : Nat → Nat → Nat) (st dg : Nat → Int) (np : Nat) (P : Nat → Nat) (aa asta ad asc ap : Option Addr) (csc : Nat) : Prop where
  adj : RdAdj S w aa n d (fun p i => (N p i : Int))
  sta : Rd S w asta n (fun j => .int .i8 (st j))
  deg : Rd S w ad n (fun j => .int .i64 (dg j))
  sc : Own (fun k => k = bsc) 3 w asc n csc (fun _ => .int .i64 0)
  pl : Rd S w ap np (fun j => .int .i64 (P j : Int))
  out : ∀ k, S k → k ≠ bsc
  bsc : bsc < w.heap.size
  ok : ∀ i, i < np → P i < n ∧ 0 ≤ dg (P i) ∧ dg (P i) ≤ n ∧ st (P i) = 0
  pinj : ∀ i j, i < np → j < np → P i = P j → i = j
  gr : Gr n d N

/-- the fields of a search. -/
def csF (aa asta ad asc : Option Addr) (n ca cs cd csc : Nat) (steps : Int) : Nat → Value
  | 0 => .slice aa n ca
  | 1 => .slice asta n cs
  | 2 => .slice ad n cd
  | 3 => .slice none 0 0
  | 4 => .int .i64 steps
  | 5 => .int .i64 0
  | 6 => .slice none 0 0
  | 7 => .slice none 0 0
  | 8 => .slice none 0 0
  | 9 => .slice none 0 0
  | 10 => .slice none 0 0
  | _ => .slice asc n csc

theorem ZIn.cliIn {w : World} {bsc : Nat} {S : Nat → Prop} {n : Nat} {d : Nat → Nat} {N : Nat → Nat → Nat} {st dg : Nat → Int} {np : Nat} {P : Nat → Nat} {aa asta ad asc ap : Option Addr} {csc : Nat}
    (h : ZIn w bsc S n d N st dg np P aa asta ad asc ap csc) (ca cs cd : Nat) (steps : Int) :
    CliIn (w.alloc (.cells #[.slice aa n ca, .slice asta n cs, .slice ad n cd, .slice none 0 0, .int .i64 steps, .int .i64 0, .slice none 0 0, .slice none 0 0, .slice none 0 0, .slice none 0 0, .slice none 0 0, .slice asc n csc] 66))
      w.heap.size bsc (fun k => S k ∧ k < w.heap.size) (csF aa asta ad asc n ca cs cd csc steps) n d N st dg ap np P asc csc := by
  have hx := (Ext.refl (fun _ => False) w).alloc (.cells #[.slice aa n ca, .slice asta n cs, .slice ad n cd, .slice none 0 0, .int .i64 steps, .int .i64 0, .slice none 0 0, .slice none 0 0, .slice none 0 0, .slice none 0 0, .slice none 0 0, .slice asc n csc] 66)
  have hb := h.bsc
  refine ⟨Own.fresh (fun k => k = w.heap.size) w _ 66 12 _ rfl rfl (by omega) ?_, ⟨aa, ca, rfl, h.adj.lt.ext hx (fun _ _ h => h)⟩, ⟨asta, cs, rfl, h.sta.lt.ext hx (fun _ _ h => h)⟩, ⟨ad, cd, rfl, h.deg.lt.ext hx (fun _ _ h => h)⟩, rfl, h.sc.ext hx (fun _ _ h => h),
    h.pl.lt.ext hx (fun _ _ h => h), fun k hk => ⟨by omega, h.out k hk.1⟩, by omega, by simp; omega, h.ok, h.pinj, h.gr⟩
  intro j hj
  match j, hj with
  | 0, _ => rfl
  | 1, _ => rfl
  | 2, _ => rfl
  | 3, _ => rfl
  | 4, _ => rfl
  | 5, _ => rfl
  | 6, _ => rfl
  | 7, _ => rfl
  | 8, _ => rfl
  | 9, _ => rfl
  | 10, _ => rfl
  | 11, _ => rfl

structure ZCOut (w w' : World) (bsc n : Nat) (d : Nat → Nat) (N : Nat → Nat → Nat) (dg : Nat → Int) (np : Nat) (P : Nat → Nat) (asc : Option Addr) (csc t : Nat) (O : Nat → Nat) (aC : Option Addr) (capC : Nat) : Prop where
  ord : OrdOk np dg P t O
  ext : Ext (fun k => k = bsc) w w'
  rows : ∃ (R : Nat → Option Addr) (cp : Nat → Nat), Own (fun k => w.heap.size ≤ k) 24 w' aC (runC d N O np).nc capC (fun c => .slice (R c) ((runC d N O np).sz c) (cp c)) ∧
    ∀ c, c < (runC d N O np).nc → Own (fun k => w.heap.size ≤ k) 3 w' (R c) ((runC d N O np).sz c) (cp c) (fun i => .int .i64 ((runC d N O np).el c i : Int))
  nil : (runC d N O np).nc = 0 → aC = none
  sc : Own (fun k => k = bsc) 3 w' asc n csc (fun _ => .int .i64 0)

set_option maxHeartbeats 1000000 in
set_option maxRecDepth 100000 in
theorem zzcliques_any (w : World) (bsc : Nat) (S : Nat → Prop) (n : Nat) (d : Nat → Nat) (N : Nat → Nat → Nat) (st dg : Nat → Int) (np : Nat) (P : Nat → Nat) (aa asta ad asc ap : Option Addr) (ca cs cd csc cpp : Nat) (steps : Int)
    (hin : ZIn w bsc S n d N st dg np P aa asta ad asc ap csc) (hn : n ≤ 131072) (hnp : np ≤ 4096) :
    Calls Try.prog 30 #[.slice aa n ca, .slice asta n cs, .slice ad n cd, .int .i64 steps, .slice asc n csc, .slice ap np cpp] w fun e w' => ∃ (t : Nat) (O : Nat → Nat) (aC : Option Addr) (capC : Nat),
      e = .returned (.tuple #[.slice aC (runC d N O np).nc capC, .int .i64 (wrap64 (steps + (2 * np + t) + sumD d O np)), .slice asc n csc]) ∧ ZCOut w w' bsc n d N dg np P asc csc t O aC capC := by
  go_enter Try.func30, Try.ntmps30
  go_wp2_with fail
  refine (cliques_any _ w.heap.size bsc _ _ n d N st dg ap np cpp P asc csc steps (hin.cliIn ca cs cd steps) rfl hn hnp).mono ?_
  rintro e w2 ⟨t, O, aC, capC, rfl, hO⟩
  obtain ⟨g, _, hS, _, hc4, _⟩ := hO.str.at 4 (by omega)
  obtain rfl : g = w.heap.size := hS
  obtain ⟨g, _, hS, _, hc11, _⟩ := hO.str.at 11 (by omega)
  obtain rfl : g = w.heap.size := hS
  rw [upd_same] at hc4
  rw [upd_other _ _ _ _ (by omega)] at hc11
  simp only [csF] at hc11
  go_wp2_with fail
  go_quiet (fail)
  go_wp2_with fail
  go_ret3
  refine ⟨t, O, aC, capC, rfl, hO.ord, ?_, ?_, hO.nil, ?_⟩
  · exact (((Ext.refl (fun k => k = bsc) w).alloc _).trans hO.ext (fun i hi h => by omega)).drewN _
  · obtain ⟨R, cp, h1, h2⟩ := hO.rows
    exact ⟨R, cp, (h1.mono (fun k hk => by simp at hk; omega)).drewN _, fun c hc => ((h2 c hc).mono (fun k hk => by simp at hk; omega)).drewN _⟩
  · exact hO.sc.drewN _
end Go.Proofs.Qxb6601557a
