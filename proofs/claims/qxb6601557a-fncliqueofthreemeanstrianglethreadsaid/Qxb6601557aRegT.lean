/-
  The region 'p, ok, _, _ := cs.ZZTriangleThread(copy, copy, copy, steps, make, make, copy)': its relation, operation by operation. Laid by a program of mine. By an AI agent.
-/
import Derived.Test.Qxb6601557aGatherT
import Derived.Test.Qxb6601557aRegC
namespace Go.Proofs.Qxb6601557a
set_option linter.unusedVariables false
open Go.RowKit

section
variable (W : World) (n : Nat) (d : Nat → Nat) (A : Nat → Nat → Int) (st dg : Nat → Int) (np : Nat) (P : Nat → Int) (b0 b1 b2 b3 : Option Addr) (steps : Int)

structure TPre (m : Nat → Option Value) (w : World) (o : Option Nat) (oa os od op ob : Option (Option Addr)) : Prop where
  rg : RGT W w n d A st dg np P o oa os od op ob
  m1 : m 1 = oa.map (fun a => .slice a n n)
  m3 : m 3 = os.map (fun a => .slice a n n)
  m5 : m 5 = od.map (fun a => .slice a n n)
  m7 : m 7 = o.map (fun b => .slice (some ⟨b, 0, none⟩) n n)
  m9 : m 9 = ob.map (fun a => .slice a n n)
  m11 : m 11 = op.map (fun a => .slice a np np)
  rest : ∀ i, 12 ≤ i → m i = none

structure TPost (m : Nat → Option Value) (w : World) (t : Nat) (O : Nat → Nat) (b : Nat) : Prop where
  res : TriRes W w n dg np (pn P) t O b
  m1 : m 1 ≠ none
  m3 : m 3 ≠ none
  m5 : m 5 ≠ none
  m7 : m 7 ≠ none
  m9 : m 9 ≠ none
  m11 : m 11 ≠ none
  m12 : m 12 = some (.tuple #[.int .i64 (ttP (ttTo d (nb A) (okF st) (fun _ => false) O np) O : Int), .bool (ttTo d (nb A) (okF st) (fun _ => false) O np).1.isSome, .int .i64 (wrap64 (steps + (2 * np + t) + ((ttTo d (nb A) (okF st) (fun _ => false) O np).2 : Nat))), .slice (some ⟨b, 0, none⟩) n n])
  m13 : Is m 13 (.tuple #[.int .i64 (ttP (ttTo d (nb A) (okF st) (fun _ => false) O np) O : Int), .bool (ttTo d (nb A) (okF st) (fun _ => false) O np).1.isSome, .int .i64 (wrap64 (steps + (2 * np + t) + ((ttTo d (nb A) (okF st) (fun _ => false) O np).2 : Nat))), .slice (some ⟨b, 0, none⟩) n n])
  m14 : Is m 14 (.int .i64 (ttP (ttTo d (nb A) (okF st) (fun _ => false) O np) O : Int))
  m15 : Is m 15 (.bool (ttTo d (nb A) (okF st) (fun _ => false) O np).1.isSome)
  m16 : Is m 16 (.int .i64 (wrap64 (steps + (2 * np + t) + ((ttTo d (nb A) (okF st) (fun _ => false) O np).2 : Nat))))
  m17 : Is m 17 (.slice (some ⟨b, 0, none⟩) n n)
  m18 : Is m 18 (.int .i64 (ttP (ttTo d (nb A) (okF st) (fun _ => false) O np) O : Int))
  m19 : Is m 19 (.bool (ttTo d (nb A) (okF st) (fun _ => false) O np).1.isSome)
  m20 : Is m 20 (.int .i64 (wrap64 (steps + (2 * np + t) + ((ttTo d (nb A) (okF st) (fun _ => false) O np).2 : Nat))))
  m21 : Is m 21 (.slice (some ⟨b, 0, none⟩) n n)

structure RT (m : Nat → Option Value) (w : World) : Prop where
  m0 : Is m 0 (.slice b0 n n)
  m2 : Is m 2 (.slice b1 n n)
  m4 : Is m 4 (.slice b2 n n)
  m6 : Is m 6 (.int .i64 (n : Int))
  m8 : Is m 8 (.int .i64 (n : Int))
  m10 : Is m 10 (.slice b3 np np)
  st : (∃ o oa os od op ob, TPre W n d A st dg np P m w o oa os od op ob) ∨ ∃ t O b, TPost W n d A st dg np P steps m w t O b

end

section
variable {W : World} {n : Nat} {d : Nat → Nat} {A : Nat → Nat → Int} {st dg : Nat → Int} {np : Nat} {P : Nat → Int} {b0 b1 b2 b3 : Option Addr} {steps : Int} {m : Nat → Option Value} {w : World}

theorem RT.start : RT W n d A st dg np P b0 b1 b2 b3 steps (fun _ => none) W.drew :=
  ⟨fun u h => (by cases h), fun u h => (by cases h), fun u h => (by cases h), fun u h => (by cases h), fun u h => (by cases h), fun u h => (by cases h), .inl ⟨none, none, none, none, none, none, RGT.start W, rfl, rfl, rfl, rfl, rfl, rfl, fun _ _ => rfl⟩⟩

theorem RT.mv (h : RT W n d A st dg np P b0 b1 b2 b3 steps m w) (i : Nat) (u : Value) (hi : i < 12) (h1 : i ≠ 1) (h3 : i ≠ 3) (h5 : i ≠ 5) (h7 : i ≠ 7) (h9 : i ≠ 9) (h11 : i ≠ 11)
    (u0 : i = 0 → u = .slice b0 n n) (u2 : i = 2 → u = .slice b1 n n) (u4 : i = 4 → u = .slice b2 n n) (u6 : i = 6 → u = .int .i64 (n : Int)) (u8 : i = 8 → u = .int .i64 (n : Int)) (u10 : i = 10 → u = .slice b3 np np) :
    RT W n d A st dg np P b0 b1 b2 b3 steps (updO m i u) w := by
  refine ⟨h.m0.all u0, h.m2.all u2, h.m4.all u4, h.m6.all u6, h.m8.all u8, h.m10.all u10, ?_⟩
  rcases h.st with ⟨o, oa, os, od, op, ob, hp⟩ | ⟨t, O, b, hp⟩
  · exact .inl ⟨o, oa, os, od, op, ob, hp.rg, by rw [updO_other (Ne.symm h1)]; exact hp.m1, by rw [updO_other (Ne.symm h3)]; exact hp.m3, by rw [updO_other (Ne.symm h5)]; exact hp.m5, by rw [updO_other (Ne.symm h7)]; exact hp.m7, by rw [updO_other (Ne.symm h9)]; exact hp.m9, by rw [updO_other (Ne.symm h11)]; exact hp.m11, fun k hk => by rw [updO_other (by omega)]; exact hp.rest k hk⟩
  · exact .inr ⟨t, O, b, hp.res, by rw [updO_other (Ne.symm h1)]; exact hp.m1, by rw [updO_other (Ne.symm h3)]; exact hp.m3, by rw [updO_other (Ne.symm h5)]; exact hp.m5, by rw [updO_other (Ne.symm h7)]; exact hp.m7, by rw [updO_other (Ne.symm h9)]; exact hp.m9, by rw [updO_other (Ne.symm h11)]; exact hp.m11, by rw [updO_other (by omega)]; exact hp.m12, hp.m13.other (by omega), hp.m14.other (by omega), hp.m15.other (by omega), hp.m16.other (by omega), hp.m17.other (by omega), hp.m18.other (by omega), hp.m19.other (by omega), hp.m20.other (by omega), hp.m21.other (by omega)⟩

theorem RT.call1 (h : RT W n d A st dg np P b0 b1 b2 b3 steps m w) (g : Src W n d A st dg np P b0 b1 b2 b3) (hm : m 1 = none) : Calls Try.prog 13 #[.slice b0 n n] w fun e w' => ∃ u, e = .returned u ∧ RT W n d A st dg np P b0 b1 b2 b3 steps (updO m 1 u) w' := by
  rcases h.st with ⟨o, oa, os, od, op, ob, hp⟩ | ⟨t, O, b, hp⟩
  · obtain rfl : oa = none := by have := hp.m1; rw [hm] at this; cases oa <;> simp at this; rfl
    refine (hp.rg.c13 g n).mono ?_
    rintro e w' ⟨a', rfl, hr⟩
    exact ⟨_, rfl, h.m0.other (by omega), h.m2.other (by omega), h.m4.other (by omega), h.m6.other (by omega), h.m8.other (by omega), h.m10.other (by omega), .inl ⟨o, some a', os, od, op, ob, hr, updO_same, by rw [updO_other (by omega)]; exact hp.m3, by rw [updO_other (by omega)]; exact hp.m5, by rw [updO_other (by omega)]; exact hp.m7, by rw [updO_other (by omega)]; exact hp.m9, by rw [updO_other (by omega)]; exact hp.m11, fun k hk => by rw [updO_other (by omega)]; exact hp.rest k hk⟩⟩
  · exact absurd hm hp.m1

theorem RT.call3 (h : RT W n d A st dg np P b0 b1 b2 b3 steps m w) (g : Src W n d A st dg np P b0 b1 b2 b3) (hm : m 3 = none) : Calls Try.prog 14 #[.slice b1 n n] w fun e w' => ∃ u, e = .returned u ∧ RT W n d A st dg np P b0 b1 b2 b3 steps (updO m 3 u) w' := by
  rcases h.st with ⟨o, oa, os, od, op, ob, hp⟩ | ⟨t, O, b, hp⟩
  · obtain rfl : os = none := by have := hp.m3; rw [hm] at this; cases os <;> simp at this; rfl
    refine (hp.rg.c14 g n).mono ?_
    rintro e w' ⟨a', rfl, hr⟩
    exact ⟨_, rfl, h.m0.other (by omega), h.m2.other (by omega), h.m4.other (by omega), h.m6.other (by omega), h.m8.other (by omega), h.m10.other (by omega), .inl ⟨o, oa, some a', od, op, ob, hr, by rw [updO_other (by omega)]; exact hp.m1, updO_same, by rw [updO_other (by omega)]; exact hp.m5, by rw [updO_other (by omega)]; exact hp.m7, by rw [updO_other (by omega)]; exact hp.m9, by rw [updO_other (by omega)]; exact hp.m11, fun k hk => by rw [updO_other (by omega)]; exact hp.rest k hk⟩⟩
  · exact absurd hm hp.m3

theorem RT.call5 (h : RT W n d A st dg np P b0 b1 b2 b3 steps m w) (g : Src W n d A st dg np P b0 b1 b2 b3) (hm : m 5 = none) : Calls Try.prog 15 #[.slice b2 n n] w fun e w' => ∃ u, e = .returned u ∧ RT W n d A st dg np P b0 b1 b2 b3 steps (updO m 5 u) w' := by
  rcases h.st with ⟨o, oa, os, od, op, ob, hp⟩ | ⟨t, O, b, hp⟩
  · obtain rfl : od = none := by have := hp.m5; rw [hm] at this; cases od <;> simp at this; rfl
    refine (hp.rg.c15d g n).mono ?_
    rintro e w' ⟨a', rfl, hr⟩
    exact ⟨_, rfl, h.m0.other (by omega), h.m2.other (by omega), h.m4.other (by omega), h.m6.other (by omega), h.m8.other (by omega), h.m10.other (by omega), .inl ⟨o, oa, os, some a', op, ob, hr, by rw [updO_other (by omega)]; exact hp.m1, by rw [updO_other (by omega)]; exact hp.m3, updO_same, by rw [updO_other (by omega)]; exact hp.m7, by rw [updO_other (by omega)]; exact hp.m9, by rw [updO_other (by omega)]; exact hp.m11, fun k hk => by rw [updO_other (by omega)]; exact hp.rest k hk⟩⟩
  · exact absurd hm hp.m5

theorem RT.call11 (h : RT W n d A st dg np P b0 b1 b2 b3 steps m w) (g : Src W n d A st dg np P b0 b1 b2 b3) (hm : m 11 = none) : Calls Try.prog 15 #[.slice b3 np np] w fun e w' => ∃ u, e = .returned u ∧ RT W n d A st dg np P b0 b1 b2 b3 steps (updO m 11 u) w' := by
  rcases h.st with ⟨o, oa, os, od, op, ob, hp⟩ | ⟨t, O, b, hp⟩
  · obtain rfl : op = none := by have := hp.m11; rw [hm] at this; cases op <;> simp at this; rfl
    refine (hp.rg.c15p g np).mono ?_
    rintro e w' ⟨a', rfl, hr⟩
    exact ⟨_, rfl, h.m0.other (by omega), h.m2.other (by omega), h.m4.other (by omega), h.m6.other (by omega), h.m8.other (by omega), h.m10.other (by omega), .inl ⟨o, oa, os, od, some a', ob, hr, by rw [updO_other (by omega)]; exact hp.m1, by rw [updO_other (by omega)]; exact hp.m3, by rw [updO_other (by omega)]; exact hp.m5, by rw [updO_other (by omega)]; exact hp.m7, by rw [updO_other (by omega)]; exact hp.m9, updO_same, fun k hk => by rw [updO_other (by omega)]; exact hp.rest k hk⟩⟩
  · exact absurd hm hp.m11

theorem RT.make7 (h : RT W n d A st dg np P b0 b1 b2 b3 steps m w) (hn : n ≤ 131072) (hm : m 7 = none) : ∃ u w', (Instr.makeSlice 24 (.int .i64 (n : Int)) (.int .i64 (n : Int))).run Try.prog w = .ok u w' ∧ RT W n d A st dg np P b0 b1 b2 b3 steps (updO m 7 u) w' := by
  rcases h.st with ⟨o, oa, os, od, op, ob, hp⟩ | ⟨t, O, b, hp⟩
  · obtain rfl : o = none := by have := hp.m7; rw [hm] at this; cases o <;> simp at this; rfl
    exact ⟨_, _, run_mk3 w n hn, h.m0.other (by omega), h.m2.other (by omega), h.m4.other (by omega), h.m6.other (by omega), h.m8.other (by omega), h.m10.other (by omega), .inl ⟨some w.heap.size, oa, os, od, op, ob, hp.rg.make hn, by rw [updO_other (by omega)]; exact hp.m1, by rw [updO_other (by omega)]; exact hp.m3, by rw [updO_other (by omega)]; exact hp.m5, updO_same, by rw [updO_other (by omega)]; exact hp.m9, by rw [updO_other (by omega)]; exact hp.m11, fun k hk => by rw [updO_other (by omega)]; exact hp.rest k hk⟩⟩
  · exact absurd hm hp.m7

theorem run_mk4 (w : World) (n : Nat) (hn : n ≤ 131072) : (Instr.makeSlice 26 (.int .i64 (n : Int)) (.int .i64 (n : Int))).run Try.prog w = .ok (.slice (some ⟨w.heap.size, 0, none⟩) n n) (w.alloc (.cells (madeCells #[.bool false] n) 4)) := by
  obtain ⟨i, hi, hz0, hz1, hz2⟩ := info_parts info4
  have hr := run_make (P := Try.prog) w 26 4 i (.bool false) Try.underlying26 hi hz0 .i64 .i64 n n (by omega) (Int.le_refl _) (by rw [hz2]; omega) (by omega)
  simpa [hz1, Value.cells] using hr

theorem RT.make9 (h : RT W n d A st dg np P b0 b1 b2 b3 steps m w) (hn : n ≤ 131072) (hm : m 9 = none) : ∃ u w', (Instr.makeSlice 26 (.int .i64 (n : Int)) (.int .i64 (n : Int))).run Try.prog w = .ok u w' ∧ RT W n d A st dg np P b0 b1 b2 b3 steps (updO m 9 u) w' := by
  rcases h.st with ⟨o, oa, os, od, op, ob, hp⟩ | ⟨t, O, b, hp⟩
  · obtain rfl : ob = none := by have := hp.m9; rw [hm] at this; cases ob <;> simp at this; rfl
    exact ⟨_, _, run_mk4 w n hn, h.m0.other (by omega), h.m2.other (by omega), h.m4.other (by omega), h.m6.other (by omega), h.m8.other (by omega), h.m10.other (by omega), .inl ⟨o, oa, os, od, op, some (some ⟨w.heap.size, 0, none⟩), hp.rg.makeB hn, by rw [updO_other (by omega)]; exact hp.m1, by rw [updO_other (by omega)]; exact hp.m3, by rw [updO_other (by omega)]; exact hp.m5, by rw [updO_other (by omega)]; exact hp.m7, updO_same, by rw [updO_other (by omega)]; exact hp.m11, fun k hk => by rw [updO_other (by omega)]; exact hp.rest k hk⟩⟩
  · exact absurd hm hp.m9

theorem RT.call12 (h : RT W n d A st dg np P b0 b1 b2 b3 steps m w) (hwf : WF n d A) (hpl : ∀ k, k < np → PlaceOk n st dg P k) (hd : ∀ p, p < n → d p ≤ 131072) (hn : n ≤ 131072) (hnp : np ≤ 4096) (hm : m 12 = none)
    {u1 u3 u5 u7 u9 u11 : Value} (e1 : m 1 = some u1) (e3 : m 3 = some u3) (e5 : m 5 = some u5) (e7 : m 7 = some u7) (e9 : m 9 = some u9) (e11 : m 11 = some u11) :
    Calls Try.prog 37 #[u1, u3, u5, .int .i64 steps, u7, u9, u11] w fun e w' => ∃ u, e = .returned u ∧ RT W n d A st dg np P b0 b1 b2 b3 steps (updO m 12 u) w' := by
  rcases h.st with ⟨o, oa, os, od, op, ob, hp⟩ | ⟨t, O, b, hp⟩
  · have k1 := hp.m1; have k3 := hp.m3; have k5 := hp.m5; have k7 := hp.m7; have k9 := hp.m9; have k11 := hp.m11
    rw [e1] at k1; rw [e3] at k3; rw [e5] at k5; rw [e7] at k7; rw [e9] at k9; rw [e11] at k11
    cases oa with
    | none => simp at k1
    | some a1 => cases os with
      | none => simp at k3
      | some a3 => cases od with
        | none => simp at k5
        | some a5 => cases op with
          | none => simp at k11
          | some a11 => cases ob with
            | none => simp at k9
            | some a9 => cases o with
              | none => simp at k7
              | some b =>
                simp at k1 k3 k5 k7 k9 k11
                subst k1 k3 k5 k7 k9 k11
                refine (hp.rg.c37 hwf hpl hd hn hnp steps).mono ?_
                rintro e w' ⟨t, O, rfl, hr⟩
                have hz : ∀ k, 13 ≤ k → ∀ x, Is (updO m 12 (.tuple #[.int .i64 (ttP (ttTo d (nb A) (okF st) (fun _ => false) O np) O : Int), .bool (ttTo d (nb A) (okF st) (fun _ => false) O np).1.isSome, .int .i64 (wrap64 (steps + (2 * np + t) + ((ttTo d (nb A) (okF st) (fun _ => false) O np).2 : Nat))), .slice (some ⟨b, 0, none⟩) n n])) k x := by
                  intro k hk x u hu
                  rw [updO_other (by omega), hp.rest k (by omega)] at hu
                  cases hu
                exact ⟨_, rfl, h.m0.other (by omega), h.m2.other (by omega), h.m4.other (by omega), h.m6.other (by omega), h.m8.other (by omega), h.m10.other (by omega), .inr ⟨t, O, b, hr, by rw [updO_other (by omega), e1]; simp, by rw [updO_other (by omega), e3]; simp, by rw [updO_other (by omega), e5]; simp, by rw [updO_other (by omega), e7]; simp, by rw [updO_other (by omega), e9]; simp, by rw [updO_other (by omega), e11]; simp,
                  updO_same, hz 13 (by omega) _, hz 14 (by omega) _, hz 15 (by omega) _, hz 16 (by omega) _, hz 17 (by omega) _, hz 18 (by omega) _, hz 19 (by omega) _, hz 20 (by omega) _, hz 21 (by omega) _⟩⟩
  · rw [hp.m12] at hm; cases hm

theorem RT.out (h : RT W n d A st dg np P b0 b1 b2 b3 steps m w) {k : Nat} {u : Value} (hm : m k = some u) (hk : 12 ≤ k) : ∃ t O b, TPost W n d A st dg np P steps m w t O b := by
  rcases h.st with ⟨o, oa, os, od, op, ob, hp⟩ | hp
  · rw [hp.rest k hk] at hm; cases hm
  · exact hp

theorem RT.put (h : RT W n d A st dg np P b0 b1 b2 b3 steps m w) {t : Nat} {O : Nat → Nat} {b : Nat} (hp : TPost W n d A st dg np P steps m w t O b) (i : Nat) (u : Value) (hi : 13 ≤ i)
    (uT : i = 13 → u = .tuple #[.int .i64 (ttP (ttTo d (nb A) (okF st) (fun _ => false) O np) O : Int), .bool (ttTo d (nb A) (okF st) (fun _ => false) O np).1.isSome, .int .i64 (wrap64 (steps + (2 * np + t) + ((ttTo d (nb A) (okF st) (fun _ => false) O np).2 : Nat))), .slice (some ⟨b, 0, none⟩) n n])
    (x0 : i = 14 ∨ i = 18 → u = .int .i64 (ttP (ttTo d (nb A) (okF st) (fun _ => false) O np) O : Int)) (x1 : i = 15 ∨ i = 19 → u = .bool (ttTo d (nb A) (okF st) (fun _ => false) O np).1.isSome) (x2 : i = 16 ∨ i = 20 → u = .int .i64 (wrap64 (steps + (2 * np + t) + ((ttTo d (nb A) (okF st) (fun _ => false) O np).2 : Nat)))) (x3 : i = 17 ∨ i = 21 → u = .slice (some ⟨b, 0, none⟩) n n) :
    RT W n d A st dg np P b0 b1 b2 b3 steps (updO m i u) w :=
  ⟨h.m0.other (by omega), h.m2.other (by omega), h.m4.other (by omega), h.m6.other (by omega), h.m8.other (by omega), h.m10.other (by omega), .inr ⟨t, O, b, hp.res, by rw [updO_other (by omega)]; exact hp.m1, by rw [updO_other (by omega)]; exact hp.m3, by rw [updO_other (by omega)]; exact hp.m5, by rw [updO_other (by omega)]; exact hp.m7, by rw [updO_other (by omega)]; exact hp.m9, by rw [updO_other (by omega)]; exact hp.m11,
    by rw [updO_other (by omega)]; exact hp.m12, hp.m13.all uT, hp.m14.all (fun e => x0 (.inl e)), hp.m15.all (fun e => x1 (.inl e)), hp.m16.all (fun e => x2 (.inl e)), hp.m17.all (fun e => x3 (.inl e)), hp.m18.all (fun e => x0 (.inr e)), hp.m19.all (fun e => x1 (.inr e)), hp.m20.all (fun e => x2 (.inr e)), hp.m21.all (fun e => x3 (.inr e))⟩⟩

structure TEnd (W w : World) (n : Nat) (d : Nat → Nat) (A : Nat → Nat → Int) (st dg : Nat → Int) (np : Nat) (P : Nat → Int) (steps : Int) (v : Nat → Value) (t : Nat) (O : Nat → Nat) (b : Nat) : Prop where
  res : TriRes W w n dg np (pn P) t O b
  v18 : v 18 = .int .i64 (ttP (ttTo d (nb A) (okF st) (fun _ => false) O np) O : Int)
  v19 : v 19 = .bool (ttTo d (nb A) (okF st) (fun _ => false) O np).1.isSome
  v20 : v 20 = .int .i64 (wrap64 (steps + (2 * np + t) + ((ttTo d (nb A) (okF st) (fun _ => false) O np).2 : Nat)))
  v21 : v 21 = .slice (some ⟨b, 0, none⟩) n n

theorem RT.end_ {v : Nat → Value} (h : RT W n d A st dg np P b0 b1 b2 b3 steps (fun i => if i < 22 then some (v i) else none) w) : ∃ t O b, TEnd W w n d A st dg np P steps v t O b := by
  obtain ⟨t, O, b, hp⟩ := h.out (k := 12) (u := v 12) (by simp) (by omega)
  exact ⟨t, O, b, hp.res, hp.m18 _ (by simp), hp.m19 _ (by simp), hp.m20 _ (by simp), hp.m21 _ (by simp)⟩

end
end Go.Proofs.Qxb6601557a
