/-
  The region 'got, _, _ := cs.ZZCliques(copy, copy, copy, steps, make, copy)': its relation, operation by operation. By an AI agent.
-/
import Derived.Test.Qxb6601557aGather2
import Derived.Test.Qxb6601557aGood
namespace Go.Proofs.Qxb6601557a
set_option linter.unusedVariables false
open Go.RowKit

def Is (m : Nat → Option Value) (k : Nat) (x : Value) : Prop := ∀ u, m k = some u → u = x

theorem updO_other {m : Nat → Option Value} {i k : Nat} {u : Value} (h : k ≠ i) : updO m i u k = m k := by simp [updO, h]
theorem updO_same {m : Nat → Option Value} {i : Nat} {u : Value} : updO m i u i = some u := by simp [updO]
theorem Is.other {m : Nat → Option Value} {i k : Nat} {u x : Value} (h : Is m k x) (hk : k ≠ i) : Is (updO m i u) k x := fun y hy => h y (by rw [updO_other hk] at hy; exact hy)
theorem Is.same {m : Nat → Option Value} {k : Nat} {x : Value} : Is (updO m k x) k x := fun y hy => by rw [updO_same] at hy; injection hy with hy; exact hy.symm
theorem Is.all {m : Nat → Option Value} {i k : Nat} {u x : Value} (h : Is m k x) (hu : i = k → u = x) : Is (updO m i u) k x := by
  by_cases e : k = i
  · subst e; rw [hu rfl]; exact Is.same
  · exact h.other e

section
variable (W : World) (n : Nat) (d : Nat → Nat) (A : Nat → Nat → Int) (st dg : Nat → Int) (np : Nat) (P : Nat → Int) (b0 b1 b2 b3 : Option Addr) (steps : Int)

structure CPre (m : Nat → Option Value) (w : World) (o : Option Nat) (oa os od op : Option (Option Addr)) : Prop where
  rg : RG W w n d A st dg np P o oa os od op
  m1 : m 1 = oa.map (fun a => .slice a n n)
  m3 : m 3 = os.map (fun a => .slice a n n)
  m5 : m 5 = od.map (fun a => .slice a n n)
  m7 : m 7 = o.map (fun b => .slice (some ⟨b, 0, none⟩) n n)
  m9 : m 9 = op.map (fun a => .slice a np np)
  rest : ∀ i, 10 ≤ i → m i = none

structure CPost (m : Nat → Option Value) (w : World) (t : Nat) (O : Nat → Nat) (aC : Option Addr) (capC b : Nat) : Prop where
  res : CliRes W w n d (nb A) dg np (pn P) t O aC capC b
  m1 : m 1 ≠ none
  m3 : m 3 ≠ none
  m5 : m 5 ≠ none
  m7 : m 7 ≠ none
  m9 : m 9 ≠ none
  m10 : m 10 = some (.tuple #[.slice aC (runC d (nb A) O np).nc capC, .int .i64 (wrap64 (steps + (2 * np + t) + sumD d O np)), .slice (some ⟨b, 0, none⟩) n n])
  m11 : Is m 11 (.tuple #[.slice aC (runC d (nb A) O np).nc capC, .int .i64 (wrap64 (steps + (2 * np + t) + sumD d O np)), .slice (some ⟨b, 0, none⟩) n n])
  m12 : Is m 12 (.slice aC (runC d (nb A) O np).nc capC)
  m13 : Is m 13 (.int .i64 (wrap64 (steps + (2 * np + t) + sumD d O np)))
  m14 : Is m 14 (.slice (some ⟨b, 0, none⟩) n n)
  m15 : Is m 15 (.slice aC (runC d (nb A) O np).nc capC)
  m16 : Is m 16 (.int .i64 (wrap64 (steps + (2 * np + t) + sumD d O np)))
  m17 : Is m 17 (.slice (some ⟨b, 0, none⟩) n n)

structure RC (m : Nat → Option Value) (w : World) : Prop where
  m0 : Is m 0 (.slice b0 n n)
  m2 : Is m 2 (.slice b1 n n)
  m4 : Is m 4 (.slice b2 n n)
  m6 : Is m 6 (.int .i64 (n : Int))
  m8 : Is m 8 (.slice b3 np np)
  st : (∃ o oa os od op, CPre W n d A st dg np P m w o oa os od op) ∨ ∃ t O aC capC b, CPost W n d A dg np P steps m w t O aC capC b

end

section
variable {W : World} {n : Nat} {d : Nat → Nat} {A : Nat → Nat → Int} {st dg : Nat → Int} {np : Nat} {P : Nat → Int} {b0 b1 b2 b3 : Option Addr} {steps : Int} {m : Nat → Option Value} {w : World}

theorem RC.start : RC W n d A st dg np P b0 b1 b2 b3 steps (fun _ => none) W.drew :=
  ⟨fun u h => (by cases h), fun u h => (by cases h), fun u h => (by cases h), fun u h => (by cases h), fun u h => (by cases h), .inl ⟨none, none, none, none, none, RG.start W, rfl, rfl, rfl, rfl, rfl, fun _ _ => rfl⟩⟩

/-- a move ahead of the calls. -/
theorem RC.mv (h : RC W n d A st dg np P b0 b1 b2 b3 steps m w) (i : Nat) (u : Value) (hi : i < 10) (h1 : i ≠ 1) (h3 : i ≠ 3) (h5 : i ≠ 5) (h7 : i ≠ 7) (h9 : i ≠ 9)
    (u0 : i = 0 → u = .slice b0 n n) (u2 : i = 2 → u = .slice b1 n n) (u4 : i = 4 → u = .slice b2 n n) (u6 : i = 6 → u = .int .i64 (n : Int)) (u8 : i = 8 → u = .slice b3 np np) :
    RC W n d A st dg np P b0 b1 b2 b3 steps (updO m i u) w := by
  refine ⟨h.m0.all u0, h.m2.all u2, h.m4.all u4, h.m6.all u6, h.m8.all u8, ?_⟩
  rcases h.st with ⟨o, oa, os, od, op, hp⟩ | ⟨t, O, aC, capC, b, hp⟩
  · exact .inl ⟨o, oa, os, od, op, hp.rg, by rw [updO_other (Ne.symm h1)]; exact hp.m1, by rw [updO_other (Ne.symm h3)]; exact hp.m3, by rw [updO_other (Ne.symm h5)]; exact hp.m5, by rw [updO_other (Ne.symm h7)]; exact hp.m7, by rw [updO_other (Ne.symm h9)]; exact hp.m9,
      fun k hk => by rw [updO_other (by omega)]; exact hp.rest k hk⟩
  · exact .inr ⟨t, O, aC, capC, b, hp.res, by rw [updO_other (Ne.symm h1)]; exact hp.m1, by rw [updO_other (Ne.symm h3)]; exact hp.m3, by rw [updO_other (Ne.symm h5)]; exact hp.m5, by rw [updO_other (Ne.symm h7)]; exact hp.m7, by rw [updO_other (Ne.symm h9)]; exact hp.m9,
      by rw [updO_other (by omega)]; exact hp.m10, hp.m11.other (by omega), hp.m12.other (by omega), hp.m13.other (by omega), hp.m14.other (by omega), hp.m15.other (by omega), hp.m16.other (by omega), hp.m17.other (by omega)⟩

theorem RC.call1 (h : RC W n d A st dg np P b0 b1 b2 b3 steps m w) (g : Src W n d A st dg np P b0 b1 b2 b3) (hm : m 1 = none) : Calls Try.prog 13 #[.slice b0 n n] w fun e w' => ∃ u, e = .returned u ∧ RC W n d A st dg np P b0 b1 b2 b3 steps (updO m 1 u) w' := by
  rcases h.st with ⟨o, oa, os, od, op, hp⟩ | ⟨t, O, aC, capC, b, hp⟩
  · obtain rfl : oa = none := by have := hp.m1; rw [hm] at this; cases oa <;> simp at this; rfl
    refine (hp.rg.c13 g n).mono ?_
    rintro e w' ⟨a', rfl, hr⟩
    exact ⟨_, rfl, h.m0.other (by omega), h.m2.other (by omega), h.m4.other (by omega), h.m6.other (by omega), h.m8.other (by omega), .inl ⟨o, some a', os, od, op, hr, updO_same, by rw [updO_other (by omega)]; exact hp.m3, by rw [updO_other (by omega)]; exact hp.m5, by rw [updO_other (by omega)]; exact hp.m7, by rw [updO_other (by omega)]; exact hp.m9, fun k hk => by rw [updO_other (by omega)]; exact hp.rest k hk⟩⟩
  · exact absurd hm hp.m1

theorem RC.call3 (h : RC W n d A st dg np P b0 b1 b2 b3 steps m w) (g : Src W n d A st dg np P b0 b1 b2 b3) (hm : m 3 = none) : Calls Try.prog 14 #[.slice b1 n n] w fun e w' => ∃ u, e = .returned u ∧ RC W n d A st dg np P b0 b1 b2 b3 steps (updO m 3 u) w' := by
  rcases h.st with ⟨o, oa, os, od, op, hp⟩ | ⟨t, O, aC, capC, b, hp⟩
  · obtain rfl : os = none := by have := hp.m3; rw [hm] at this; cases os <;> simp at this; rfl
    refine (hp.rg.c14 g n).mono ?_
    rintro e w' ⟨a', rfl, hr⟩
    exact ⟨_, rfl, h.m0.other (by omega), h.m2.other (by omega), h.m4.other (by omega), h.m6.other (by omega), h.m8.other (by omega), .inl ⟨o, oa, some a', od, op, hr, by rw [updO_other (by omega)]; exact hp.m1, updO_same, by rw [updO_other (by omega)]; exact hp.m5, by rw [updO_other (by omega)]; exact hp.m7, by rw [updO_other (by omega)]; exact hp.m9, fun k hk => by rw [updO_other (by omega)]; exact hp.rest k hk⟩⟩
  · exact absurd hm hp.m3

theorem RC.call5 (h : RC W n d A st dg np P b0 b1 b2 b3 steps m w) (g : Src W n d A st dg np P b0 b1 b2 b3) (hm : m 5 = none) : Calls Try.prog 15 #[.slice b2 n n] w fun e w' => ∃ u, e = .returned u ∧ RC W n d A st dg np P b0 b1 b2 b3 steps (updO m 5 u) w' := by
  rcases h.st with ⟨o, oa, os, od, op, hp⟩ | ⟨t, O, aC, capC, b, hp⟩
  · obtain rfl : od = none := by have := hp.m5; rw [hm] at this; cases od <;> simp at this; rfl
    refine (hp.rg.c15d g n).mono ?_
    rintro e w' ⟨a', rfl, hr⟩
    exact ⟨_, rfl, h.m0.other (by omega), h.m2.other (by omega), h.m4.other (by omega), h.m6.other (by omega), h.m8.other (by omega), .inl ⟨o, oa, os, some a', op, hr, by rw [updO_other (by omega)]; exact hp.m1, by rw [updO_other (by omega)]; exact hp.m3, updO_same, by rw [updO_other (by omega)]; exact hp.m7, by rw [updO_other (by omega)]; exact hp.m9, fun k hk => by rw [updO_other (by omega)]; exact hp.rest k hk⟩⟩
  · exact absurd hm hp.m5

theorem RC.call9 (h : RC W n d A st dg np P b0 b1 b2 b3 steps m w) (g : Src W n d A st dg np P b0 b1 b2 b3) (hm : m 9 = none) : Calls Try.prog 15 #[.slice b3 np np] w fun e w' => ∃ u, e = .returned u ∧ RC W n d A st dg np P b0 b1 b2 b3 steps (updO m 9 u) w' := by
  rcases h.st with ⟨o, oa, os, od, op, hp⟩ | ⟨t, O, aC, capC, b, hp⟩
  · obtain rfl : op = none := by have := hp.m9; rw [hm] at this; cases op <;> simp at this; rfl
    refine (hp.rg.c15p g np).mono ?_
    rintro e w' ⟨a', rfl, hr⟩
    exact ⟨_, rfl, h.m0.other (by omega), h.m2.other (by omega), h.m4.other (by omega), h.m6.other (by omega), h.m8.other (by omega), .inl ⟨o, oa, os, od, some a', hr, by rw [updO_other (by omega)]; exact hp.m1, by rw [updO_other (by omega)]; exact hp.m3, by rw [updO_other (by omega)]; exact hp.m5, by rw [updO_other (by omega)]; exact hp.m7, updO_same, fun k hk => by rw [updO_other (by omega)]; exact hp.rest k hk⟩⟩
  · exact absurd hm hp.m9

theorem run_mk3 (w : World) (n : Nat) (hn : n ≤ 131072) : (Instr.makeSlice 24 (.int .i64 (n : Int)) (.int .i64 (n : Int))).run Try.prog w = .ok (.slice (some ⟨w.heap.size, 0, none⟩) n n) (w.alloc (.cells (madeCells #[.int .i64 0] n) 3)) := by
  obtain ⟨i, hi, hz0, hz1, hz2⟩ := info_parts info3
  have hr := run_make (P := Try.prog) w 24 3 i (.int .i64 0) Try.underlying24 hi hz0 .i64 .i64 n n (by omega) (Int.le_refl _) (by rw [hz2]; omega) (by omega)
  simpa [hz1, Value.cells] using hr

theorem RC.make7 (h : RC W n d A st dg np P b0 b1 b2 b3 steps m w) (hn : n ≤ 131072) (hm : m 7 = none) : ∃ u w', (Instr.makeSlice 24 (.int .i64 (n : Int)) (.int .i64 (n : Int))).run Try.prog w = .ok u w' ∧ RC W n d A st dg np P b0 b1 b2 b3 steps (updO m 7 u) w' := by
  rcases h.st with ⟨o, oa, os, od, op, hp⟩ | ⟨t, O, aC, capC, b, hp⟩
  · obtain rfl : o = none := by have := hp.m7; rw [hm] at this; cases o <;> simp at this; rfl
    exact ⟨_, _, run_mk3 w n hn, h.m0.other (by omega), h.m2.other (by omega), h.m4.other (by omega), h.m6.other (by omega), h.m8.other (by omega), .inl ⟨some w.heap.size, oa, os, od, op, hp.rg.make hn, by rw [updO_other (by omega)]; exact hp.m1, by rw [updO_other (by omega)]; exact hp.m3, by rw [updO_other (by omega)]; exact hp.m5, updO_same, by rw [updO_other (by omega)]; exact hp.m9, fun k hk => by rw [updO_other (by omega)]; exact hp.rest k hk⟩⟩
  · exact absurd hm hp.m7

theorem RC.call10 (h : RC W n d A st dg np P b0 b1 b2 b3 steps m w) (hwf : WF n d A) (hpl : ∀ k, k < np → PlaceOk n st dg P k) (hd : ∀ p, p < n → d p ≤ 131072) (hn : n ≤ 131072) (hnp : np ≤ 4096) (hm : m 10 = none)
    {u1 u3 u5 u7 u9 : Value} (e1 : m 1 = some u1) (e3 : m 3 = some u3) (e5 : m 5 = some u5) (e7 : m 7 = some u7) (e9 : m 9 = some u9) :
    Calls Try.prog 30 #[u1, u3, u5, .int .i64 steps, u7, u9] w fun e w' => ∃ u, e = .returned u ∧ RC W n d A st dg np P b0 b1 b2 b3 steps (updO m 10 u) w' := by
  rcases h.st with ⟨o, oa, os, od, op, hp⟩ | ⟨t, O, aC, capC, b, hp⟩
  · have k1 := hp.m1; have k3 := hp.m3; have k5 := hp.m5; have k7 := hp.m7; have k9 := hp.m9
    rw [e1] at k1; rw [e3] at k3; rw [e5] at k5; rw [e7] at k7; rw [e9] at k9
    cases oa with
    | none => simp at k1
    | some a1 => cases os with
      | none => simp at k3
      | some a3 => cases od with
        | none => simp at k5
        | some a5 => cases op with
          | none => simp at k9
          | some a9 => cases o with
            | none => simp at k7
            | some b =>
              simp at k1 k3 k5 k7 k9
              subst k1 k3 k5 k7 k9
              refine (hp.rg.c30 hwf hpl hd hn hnp steps).mono ?_
              rintro e w' ⟨t, O, aC, capC, rfl, hr⟩
              have hz : ∀ k, 11 ≤ k → ∀ x, Is (updO m 10 (.tuple #[.slice aC (runC d (nb A) O np).nc capC, .int .i64 (wrap64 (steps + (2 * np + t) + sumD d O np)), .slice (some ⟨b, 0, none⟩) n n])) k x := by
                intro k hk x u hu
                rw [updO_other (by omega), hp.rest k (by omega)] at hu
                cases hu
              exact ⟨_, rfl, h.m0.other (by omega), h.m2.other (by omega), h.m4.other (by omega), h.m6.other (by omega), h.m8.other (by omega), .inr ⟨t, O, aC, capC, b, hr, by rw [updO_other (by omega), e1]; simp, by rw [updO_other (by omega), e3]; simp, by rw [updO_other (by omega), e5]; simp, by rw [updO_other (by omega), e7]; simp, by rw [updO_other (by omega), e9]; simp,
                updO_same, hz 11 (by omega) _, hz 12 (by omega) _, hz 13 (by omega) _, hz 14 (by omega) _, hz 15 (by omega) _, hz 16 (by omega) _, hz 17 (by omega) _⟩⟩
  · rw [hp.m10] at hm; cases hm

/-- behind the call: whatever is taken out of the tuple. -/
theorem RC.out (h : RC W n d A st dg np P b0 b1 b2 b3 steps m w) {k : Nat} {u : Value} (hm : m k = some u) (hk : 10 ≤ k) : ∃ t O aC capC b, CPost W n d A dg np P steps m w t O aC capC b := by
  rcases h.st with ⟨o, oa, os, od, op, hp⟩ | hp
  · rw [hp.rest k hk] at hm; cases hm
  · exact hp

/-- all eighteen have been run. -/
structure CEnd (W w : World) (n : Nat) (d : Nat → Nat) (A : Nat → Nat → Int) (dg : Nat → Int) (np : Nat) (P : Nat → Int) (b0 b1 b2 b3 : Option Addr) (steps : Int) (v : Nat → Value) (t : Nat) (O : Nat → Nat) (aC : Option Addr) (capC b : Nat) : Prop where
  res : CliRes W w n d (nb A) dg np (pn P) t O aC capC b
  v15 : v 15 = .slice aC (runC d (nb A) O np).nc capC
  v16 : v 16 = .int .i64 (wrap64 (steps + (2 * np + t) + sumD d O np))
  v17 : v 17 = .slice (some ⟨b, 0, none⟩) n n

theorem RC.end_ {v : Nat → Value} (h : RC W n d A st dg np P b0 b1 b2 b3 steps (fun i => if i < 18 then some (v i) else none) w) : ∃ t O aC capC b, CEnd W w n d A dg np P b0 b1 b2 b3 steps v t O aC capC b := by
  obtain ⟨t, O, aC, capC, b, hp⟩ := h.out (k := 10) (u := v 10) (by simp) (by omega)
  exact ⟨t, O, aC, capC, b, hp.res, hp.m15 _ (by simp), hp.m16 _ (by simp), hp.m17 _ (by simp)⟩

theorem RC.put (h : RC W n d A st dg np P b0 b1 b2 b3 steps m w) {t : Nat} {O : Nat → Nat} {aC : Option Addr} {capC b : Nat} (hp : CPost W n d A dg np P steps m w t O aC capC b) (i : Nat) (u : Value) (hi : 11 ≤ i)
    (u11 : i = 11 → u = .tuple #[.slice aC (runC d (nb A) O np).nc capC, .int .i64 (wrap64 (steps + (2 * np + t) + sumD d O np)), .slice (some ⟨b, 0, none⟩) n n])
    (u12 : i = 12 ∨ i = 15 → u = .slice aC (runC d (nb A) O np).nc capC) (u13 : i = 13 ∨ i = 16 → u = .int .i64 (wrap64 (steps + (2 * np + t) + sumD d O np))) (u14 : i = 14 ∨ i = 17 → u = .slice (some ⟨b, 0, none⟩) n n) :
    RC W n d A st dg np P b0 b1 b2 b3 steps (updO m i u) w :=
  ⟨h.m0.other (by omega), h.m2.other (by omega), h.m4.other (by omega), h.m6.other (by omega), h.m8.other (by omega), .inr ⟨t, O, aC, capC, b, hp.res, by rw [updO_other (by omega)]; exact hp.m1, by rw [updO_other (by omega)]; exact hp.m3, by rw [updO_other (by omega)]; exact hp.m5, by rw [updO_other (by omega)]; exact hp.m7, by rw [updO_other (by omega)]; exact hp.m9,
    by rw [updO_other (by omega)]; exact hp.m10, hp.m11.all u11, hp.m12.all (fun e => u12 (.inl e)), hp.m13.all (fun e => u13 (.inl e)), hp.m14.all (fun e => u14 (.inl e)), hp.m15.all (fun e => u12 (.inr e)), hp.m16.all (fun e => u13 (.inr e)), hp.m17.all (fun e => u14 (.inr e))⟩⟩

end
end Go.Proofs.Qxb6601557a
