/-
  The arguments of a call that are copies and one fresh slice, gathered in whatever order. By an AI agent.
-/
import Derived.Test.Qxb6601557aCopyAdj
import Derived.Test.Qxb6601557aZZCliq
namespace Go.Proofs.Qxb6601557a
set_option linter.unusedVariables false
open Go.RowKit

theorem Rd.nil0 {S : Nat → Prop} {w : World} {a : Option Addr} {n : Nat} {f : Nat → Value} (h : Rd S w a n f) (ha : a = none) : n = 0 := by
  rcases Nat.eq_zero_or_pos n with h0 | h0
  · exact h0
  · obtain ⟨_, _, e, _⟩ := h 0 h0; rw [ha] at e; cases e
theorem RdAdj.nil0 {S : Nat → Prop} {w : World} {a : Option Addr} {n : Nat} {d : Nat → Nat} {A : Nat → Nat → Int} (h : RdAdj S w a n d A) (ha : a = none) : n = 0 := by
  rcases Nat.eq_zero_or_pos n with h0 | h0
  · exact h0
  · obtain ⟨_, _, _, _, e, _⟩ := h 0 h0; rw [ha] at e; cases e

theorem Rd.mono_lt {S T : Nat → Prop} {w : World} {a : Option Addr} {n : Nat} {f : Nat → Value} (h : Rd S w a n f) (hST : ∀ k, k < w.heap.size → S k → T k) : Rd T w a n f :=
  h.lt.mono (fun k hk => hST k hk.2 hk.1)
theorem RdAdj.mono_lt {S T : Nat → Prop} {w : World} {a : Option Addr} {n : Nat} {d : Nat → Nat} {A : Nat → Nat → Int} (h : RdAdj S w a n d A) (hST : ∀ k, k < w.heap.size → S k → T k) : RdAdj T w a n d A :=
  h.lt.mono (fun k hk => hST k hk.2 hk.1)

theorem Own.made (w : World) (z : Value) (e : TypeId) (n : Nat) (hn : n ≤ 131072) : Own (fun k => k = w.heap.size) e (w.alloc (.cells (madeCells #[z] n) e)) (some ⟨w.heap.size, 0, none⟩) n n (fun _ => z) := by
  refine .inr ⟨w.heap.size, _, rfl, rfl, heap_alloc_new w _, Nat.le_refl _, by unfold maxLen; omega, by simp [madeCells], ?_⟩
  intro j hj
  simp [madeCells, hj, Nat.mod_one]

/-- what is copied, as it lies in W. -/
structure Src (W : World) (n : Nat) (d : Nat → Nat) (A : Nat → Nat → Int) (st dg : Nat → Int) (np : Nat) (P : Nat → Int) (a0 a1 a2 a3 : Option Addr) : Prop where
  adj : RdAdj (fun _ => True) W a0 n d A
  sta : Rd (fun _ => True) W a1 n (fun j => .int .i8 (st j))
  deg : Rd (fun _ => True) W a2 n (fun j => .int .i64 (dg j))
  pl : Rd (fun _ => True) W a3 np (fun j => .int .i64 (P j))
  hn : n ≤ 131072
  hnp : np ≤ 131072
  hd : ∀ p, p < n → d p ≤ 131072

def NE (o : Option Nat) : Nat → Prop := fun k => o ≠ some k

/-- what of it has been copied by now (the outer 'some': done), and the fresh slice's block. -/
structure RG (W w : World) (n : Nat) (d : Nat → Nat) (A : Nat → Nat → Int) (st dg : Nat → Int) (np : Nat) (P : Nat → Int) (o : Option Nat) (oa os od op : Option (Option Addr)) : Prop where
  ext : Ext (fun _ => False) W w
  sc : ∀ b, o = some b → Own (fun k => k = b) 3 w (some ⟨b, 0, none⟩) n n (fun _ => .int .i64 0) ∧ W.heap.size ≤ b
  adj : ∀ a, oa = some a → RdAdj (NE o) w a n d A
  sta : ∀ a, os = some a → Rd (NE o) w a n (fun j => .int .i8 (st j))
  deg : ∀ a, od = some a → Rd (NE o) w a n (fun j => .int .i64 (dg j))
  pl : ∀ a, op = some a → Rd (NE o) w a np (fun j => .int .i64 (P j))

section
variable {W w w' : World} {n : Nat} {d : Nat → Nat} {A : Nat → Nat → Int} {st dg : Nat → Int} {np : Nat} {P : Nat → Int} {a0 a1 a2 a3 : Option Addr} {o : Option Nat} {oa os od op : Option (Option Addr)}

theorem RG.start (W : World) : RG W W.drew n d A st dg np P none none none none none :=
  ⟨(Ext.refl _ _).drew, fun b h => (by cases h), fun a h => (by cases h), fun a h => (by cases h), fun a h => (by cases h), fun a h => (by cases h)⟩

theorem RG.later (h : RG W w n d A st dg np P o oa os od op) (hx : Ext (fun _ => False) w w') : RG W w' n d A st dg np P o oa os od op :=
  ⟨h.ext.trans hx (fun _ _ h => h), fun b hb => ⟨(h.sc b hb).1.ext hx (fun _ _ h => h), (h.sc b hb).2⟩, fun a ha => (h.adj a ha).ext hx (fun _ _ h => h), fun a ha => (h.sta a ha).ext hx (fun _ _ h => h), fun a ha => (h.deg a ha).ext hx (fun _ _ h => h), fun a ha => (h.pl a ha).ext hx (fun _ _ h => h)⟩

theorem RG.lt (h : RG W w n d A st dg np P o oa os od op) (k : Nat) (hk : w.heap.size ≤ k) : NE o k := by
  intro e
  have := (h.sc k e).1.head_lt
  omega

/-- the fresh slice is made. -/
theorem RG.make (h : RG W w n d A st dg np P none oa os od op) (hn : n ≤ 131072) :
    RG W (w.alloc (.cells (madeCells #[.int .i64 0] n) 3)) n d A st dg np P (some w.heap.size) oa os od op := by
  have hx := (Ext.refl (fun _ => False) w).alloc (.cells (madeCells #[.int .i64 0] n) 3)
  have h2 := h.later hx
  have ne : ∀ k, k < w.heap.size → NE none k → NE (some w.heap.size) k := fun k hk _ e => by injection e with e; omega
  refine ⟨h2.ext, fun b hb => ?_, fun a ha => ((h.adj a ha).mono_lt ne).ext hx (fun _ _ h => h), fun a ha => ((h.sta a ha).mono_lt ne).ext hx (fun _ _ h => h), fun a ha => ((h.deg a ha).mono_lt ne).ext hx (fun _ _ h => h), fun a ha => ((h.pl a ha).mono_lt ne).ext hx (fun _ _ h => h)⟩
  injection hb with hb
  subst hb
  exact ⟨Own.made w (.int .i64 0) 3 n hn, h.ext.size⟩

theorem RG.c13 (h : RG W w n d A st dg np P o none os od op) (g : Src W n d A st dg np P a0 a1 a2 a3) (c : Nat) :
    Calls Try.prog 13 #[.slice a0 n c] w fun e w' => ∃ a', e = .returned (.slice a' n n) ∧ RG W w' n d A st dg np P o (some a') os od op := by
  have hg := g.adj.ext h.ext (fun _ _ h => h)
  refine (copyAdj_any _ a0 n c d A w (by have := g.hn; omega) (fun p hp => by have := g.hd p hp; omega) hg hg.nil0).mono ?_
  rintro e w' ⟨a', rfl, hc⟩
  have h2 := h.later hc.ext
  refine ⟨a', rfl, h2.ext, h2.sc, fun a ha => ?_, h2.sta, h2.deg, h2.pl⟩
  injection ha with ha
  subst ha
  exact hc.own.rd.mono (fun k hk => h.lt k (by omega))

theorem RG.c14 (h : RG W w n d A st dg np P o oa none od op) (g : Src W n d A st dg np P a0 a1 a2 a3) (c : Nat) :
    Calls Try.prog 14 #[.slice a1 n c] w fun e w' => ∃ a', e = .returned (.slice a' n n) ∧ RG W w' n d A st dg np P o oa (some a') od op := by
  have hg := g.sta.ext h.ext (fun _ _ h => h)
  refine (copyInt8s_any _ a1 n c st w (by have := g.hn; omega) hg hg.nil0).mono ?_
  rintro e w' ⟨a', rfl, hc⟩
  have h2 := h.later hc.ext
  refine ⟨a', rfl, h2.ext, h2.sc, h2.adj, fun a ha => ?_, h2.deg, h2.pl⟩
  injection ha with ha
  subst ha
  exact hc.own.rd.mono (fun k hk => h.lt k (by omega))

theorem RG.c15d (h : RG W w n d A st dg np P o oa os none op) (g : Src W n d A st dg np P a0 a1 a2 a3) (c : Nat) :
    Calls Try.prog 15 #[.slice a2 n c] w fun e w' => ∃ a', e = .returned (.slice a' n n) ∧ RG W w' n d A st dg np P o oa os (some a') op := by
  have hg := g.deg.ext h.ext (fun _ _ h => h)
  refine (copyInts_any _ a2 n c dg w (by have := g.hn; omega) hg hg.nil0).mono ?_
  rintro e w' ⟨a', rfl, hc⟩
  have h2 := h.later hc.ext
  refine ⟨a', rfl, h2.ext, h2.sc, h2.adj, h2.sta, fun a ha => ?_, h2.pl⟩
  injection ha with ha
  subst ha
  exact hc.own.rd.mono (fun k hk => h.lt k (by omega))

theorem RG.c15p (h : RG W w n d A st dg np P o oa os od none) (g : Src W n d A st dg np P a0 a1 a2 a3) (c : Nat) :
    Calls Try.prog 15 #[.slice a3 np c] w fun e w' => ∃ a', e = .returned (.slice a' np np) ∧ RG W w' n d A st dg np P o oa os od (some a') := by
  have hg := g.pl.ext h.ext (fun _ _ h => h)
  refine (copyInts_any _ a3 np c P w (by have := g.hnp; omega) hg hg.nil0).mono ?_
  rintro e w' ⟨a', rfl, hc⟩
  have h2 := h.later hc.ext
  refine ⟨a', rfl, h2.ext, h2.sc, h2.adj, h2.sta, h2.deg, fun a ha => ?_⟩
  injection ha with ha
  subst ha
  exact hc.own.rd.mono (fun k hk => h.lt k (by omega))

end
end Go.Proofs.Qxb6601557a
