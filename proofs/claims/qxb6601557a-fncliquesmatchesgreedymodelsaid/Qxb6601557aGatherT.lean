/-
  The arguments of ZZTriangleThread, gathered in whatever order. By an AI agent.
-/
import Derived.Test.Qxb6601557aGather2
import Derived.Test.Qxb6601557aZZTri
namespace Go.Proofs.Qxb6601557a
set_option linter.unusedVariables false
open Go.RowKit

/-- what of it has been copied by now (the outer 'some': done), and the fresh slice's block. -/
structure RGT (W w : World) (n : Nat) (d : Nat → Nat) (A : Nat → Nat → Int) (st dg : Nat → Int) (np : Nat) (P : Nat → Int) (o : Option Nat) (oa os od op ob : Option (Option Addr)) : Prop where
  ext : Ext (fun _ => False) W w
  sc : ∀ b, o = some b → Own (fun k => k = b) 3 w (some ⟨b, 0, none⟩) n n (fun _ => .int .i64 0) ∧ W.heap.size ≤ b
  adj : ∀ a, oa = some a → RdAdj (NE o) w a n d A
  sta : ∀ a, os = some a → Rd (NE o) w a n (fun j => .int .i8 (st j))
  deg : ∀ a, od = some a → Rd (NE o) w a n (fun j => .int .i64 (dg j))
  pl : ∀ a, op = some a → Rd (NE o) w a np (fun j => .int .i64 (P j))
  bl : ∀ a, ob = some a → Rd (NE o) w a n (fun _ => .bool false)

section
variable {W w w' : World} {n : Nat} {d : Nat → Nat} {A : Nat → Nat → Int} {st dg : Nat → Int} {np : Nat} {P : Nat → Int} {a0 a1 a2 a3 : Option Addr} {o : Option Nat} {oa os od op ob : Option (Option Addr)}

theorem RGT.start (W : World) : RGT W W.drew n d A st dg np P none none none none none none :=
  ⟨(Ext.refl _ _).drew, fun b h => (by cases h), fun a h => (by cases h), fun a h => (by cases h), fun a h => (by cases h), fun a h => (by cases h), fun a h => (by cases h)⟩

theorem RGT.later (h : RGT W w n d A st dg np P o oa os od op ob) (hx : Ext (fun _ => False) w w') : RGT W w' n d A st dg np P o oa os od op ob :=
  ⟨h.ext.trans hx (fun _ _ h => h), fun b hb => ⟨(h.sc b hb).1.ext hx (fun _ _ h => h), (h.sc b hb).2⟩, fun a ha => (h.adj a ha).ext hx (fun _ _ h => h), fun a ha => (h.sta a ha).ext hx (fun _ _ h => h), fun a ha => (h.deg a ha).ext hx (fun _ _ h => h), fun a ha => (h.pl a ha).ext hx (fun _ _ h => h), fun a ha => (h.bl a ha).ext hx (fun _ _ h => h)⟩

theorem RGT.lt (h : RGT W w n d A st dg np P o oa os od op ob) (k : Nat) (hk : w.heap.size ≤ k) : NE o k := by
  intro e
  have := (h.sc k e).1.head_lt
  omega

/-- the fresh slice is made. -/
theorem RGT.make (h : RGT W w n d A st dg np P none oa os od op ob) (hn : n ≤ 131072) :
    RGT W (w.alloc (.cells (madeCells #[.int .i64 0] n) 3)) n d A st dg np P (some w.heap.size) oa os od op ob := by
  have hx := (Ext.refl (fun _ => False) w).alloc (.cells (madeCells #[.int .i64 0] n) 3)
  have h2 := h.later hx
  have ne : ∀ k, k < w.heap.size → NE none k → NE (some w.heap.size) k := fun k hk _ e => by injection e with e; omega
  refine ⟨h2.ext, fun b hb => ?_, fun a ha => ((h.adj a ha).mono_lt ne).ext hx (fun _ _ h => h), fun a ha => ((h.sta a ha).mono_lt ne).ext hx (fun _ _ h => h), fun a ha => ((h.deg a ha).mono_lt ne).ext hx (fun _ _ h => h), fun a ha => ((h.pl a ha).mono_lt ne).ext hx (fun _ _ h => h), fun a ha => ((h.bl a ha).mono_lt ne).ext hx (fun _ _ h => h)⟩
  injection hb with hb
  subst hb
  exact ⟨Own.made w (.int .i64 0) 3 n hn, h.ext.size⟩

theorem RGT.c13 (h : RGT W w n d A st dg np P o none os od op ob) (g : Src W n d A st dg np P a0 a1 a2 a3) (c : Nat) :
    Calls Try.prog 13 #[.slice a0 n c] w fun e w' => ∃ a', e = .returned (.slice a' n n) ∧ RGT W w' n d A st dg np P o (some a') os od op ob := by
  have hg := g.adj.ext h.ext (fun _ _ h => h)
  refine (copyAdj_any _ a0 n c d A w (by have := g.hn; omega) (fun p hp => by have := g.hd p hp; omega) hg hg.nil0).mono ?_
  rintro e w' ⟨a', rfl, hc⟩
  have h2 := h.later hc.ext
  refine ⟨a', rfl, h2.ext, h2.sc, fun a ha => ?_, h2.sta, h2.deg, h2.pl, h2.bl⟩
  injection ha with ha
  subst ha
  exact hc.own.rd.mono (fun k hk => h.lt k (by omega))

theorem RGT.c14 (h : RGT W w n d A st dg np P o oa none od op ob) (g : Src W n d A st dg np P a0 a1 a2 a3) (c : Nat) :
    Calls Try.prog 14 #[.slice a1 n c] w fun e w' => ∃ a', e = .returned (.slice a' n n) ∧ RGT W w' n d A st dg np P o oa (some a') od op ob := by
  have hg := g.sta.ext h.ext (fun _ _ h => h)
  refine (copyInt8s_any _ a1 n c st w (by have := g.hn; omega) hg hg.nil0).mono ?_
  rintro e w' ⟨a', rfl, hc⟩
  have h2 := h.later hc.ext
  refine ⟨a', rfl, h2.ext, h2.sc, h2.adj, fun a ha => ?_, h2.deg, h2.pl, h2.bl⟩
  injection ha with ha
  subst ha
  exact hc.own.rd.mono (fun k hk => h.lt k (by omega))

theorem RGT.c15d (h : RGT W w n d A st dg np P o oa os none op ob) (g : Src W n d A st dg np P a0 a1 a2 a3) (c : Nat) :
    Calls Try.prog 15 #[.slice a2 n c] w fun e w' => ∃ a', e = .returned (.slice a' n n) ∧ RGT W w' n d A st dg np P o oa os (some a') op ob := by
  have hg := g.deg.ext h.ext (fun _ _ h => h)
  refine (copyInts_any _ a2 n c dg w (by have := g.hn; omega) hg hg.nil0).mono ?_
  rintro e w' ⟨a', rfl, hc⟩
  have h2 := h.later hc.ext
  refine ⟨a', rfl, h2.ext, h2.sc, h2.adj, h2.sta, fun a ha => ?_, h2.pl, h2.bl⟩
  injection ha with ha
  subst ha
  exact hc.own.rd.mono (fun k hk => h.lt k (by omega))

theorem RGT.c15p (h : RGT W w n d A st dg np P o oa os od none ob) (g : Src W n d A st dg np P a0 a1 a2 a3) (c : Nat) :
    Calls Try.prog 15 #[.slice a3 np c] w fun e w' => ∃ a', e = .returned (.slice a' np np) ∧ RGT W w' n d A st dg np P o oa os od (some a') ob := by
  have hg := g.pl.ext h.ext (fun _ _ h => h)
  refine (copyInts_any _ a3 np c P w (by have := g.hnp; omega) hg hg.nil0).mono ?_
  rintro e w' ⟨a', rfl, hc⟩
  have h2 := h.later hc.ext
  refine ⟨a', rfl, h2.ext, h2.sc, h2.adj, h2.sta, h2.deg, fun a ha => ?_, h2.bl⟩
  injection ha with ha
  subst ha
  exact hc.own.rd.mono (fun k hk => h.lt k (by omega))

/-- the fresh bools are made. -/
theorem RGT.makeB (h : RGT W w n d A st dg np P o oa os od op none) (hn : n ≤ 131072) :
    RGT W (w.alloc (.cells (madeCells #[.bool false] n) 4)) n d A st dg np P o oa os od op (some (some ⟨w.heap.size, 0, none⟩)) := by
  have hx := (Ext.refl (fun _ => False) w).alloc (.cells (madeCells #[.bool false] n) 4)
  have h2 := h.later hx
  refine ⟨h2.ext, h2.sc, h2.adj, h2.sta, h2.deg, h2.pl, fun a ha => ?_⟩
  injection ha with ha
  subst ha
  exact (Own.made w (.bool false) 4 n hn).rd.mono (fun k hk => h.lt k (by omega))

/-- what is known behind the call of ZZTriangleThread. -/
structure TriRes (W w' : World) (n : Nat) (dg : Nat → Int) (np : Nat) (P : Nat → Nat) (t : Nat) (O : Nat → Nat) (b : Nat) : Prop where
  ord : OrdOk np dg P t O
  ext : Ext (fun _ => False) W w'
  sc : Own (fun k => k = b) 3 w' (some ⟨b, 0, none⟩) n n (fun _ => .int .i64 0)

theorem RGT.zin {b : Nat} (h : RGT W w n d A st dg np P (some b) (some a0) (some a1) (some a2) (some a3) ob) (hwf : WF n d A) (hpl : ∀ k, k < np → PlaceOk n st dg P k) (hd : ∀ p, p < n → d p ≤ 131072) :
    ZIn w b (NE (some b)) n d (nb A) st dg np (pn P) a0 a1 a2 (some ⟨b, 0, none⟩) a3 n := by
  refine ⟨(h.adj a0 rfl).congr (fun p hp i hi => hwf.nb hp hi), h.sta a1 rfl, h.deg a2 rfl, (h.sc b rfl).1, (h.pl a3 rfl).congr (fun j hj => by rw [pn_eq (hpl j hj)]), fun k hk e => hk (by rw [e]), (h.sc b rfl).1.head_lt, fun i hi => ?_, fun i j hi hj e => ?_, hwf.gr hd⟩
  · have hk := hpl i hi
    have := pn_eq hk
    have h1 := hk.hi
    exact ⟨by omega, hk.dlo, hk.dhi, hk.free⟩
  · have e1 := pn_eq (hpl i hi)
    have e2 := pn_eq (hpl j hj)
    rcases Nat.lt_trichotomy i j with hl | hl | hl
    · exact absurd (by omega) ((hpl j hj).new i hl)
    · exact hl
    · exact absurd (by omega) ((hpl i hi).new j hl)

/-- free; none is plain. -/
def okF (st : Nat → Int) (q : Nat) : Bool := decide (st q = 0)

theorem RGT.c37 {b : Nat} {ab : Option Addr} (h : RGT W w n d A st dg np P (some b) (some a0) (some a1) (some a2) (some a3) (some ab)) (hwf : WF n d A) (hpl : ∀ k, k < np → PlaceOk n st dg P k) (hd : ∀ p, p < n → d p ≤ 131072) (hn : n ≤ 131072) (hnp : np ≤ 4096) (steps : Int) :
    Calls Try.prog 37 #[.slice a0 n n, .slice a1 n n, .slice a2 n n, .int .i64 steps, .slice (some ⟨b, 0, none⟩) n n, .slice ab n n, .slice a3 np np] w fun e w' => ∃ (t : Nat) (O : Nat → Nat),
      e = .returned (.tuple #[.int .i64 (ttP (ttTo d (nb A) (okF st) (fun _ => false) O np) O : Int), .bool (ttTo d (nb A) (okF st) (fun _ => false) O np).1.isSome, .int .i64 (wrap64 (steps + (2 * np + t) + ((ttTo d (nb A) (okF st) (fun _ => false) O np).2 : Nat))), .slice (some ⟨b, 0, none⟩) n n]) ∧ TriRes W w' n dg np (pn P) t O b := by
  refine (zztri_any w b _ n d (nb A) st dg np (pn P) a0 a1 a2 _ a3 n n n n np steps (fun _ => false) ab n (okF st) (h.zin hwf hpl hd) (h.bl ab rfl) hn hnp (fun q => by simp [okF])).mono ?_
  rintro e w' ⟨t, O, rfl, hO⟩
  have hb := (h.sc b rfl).2
  have hs := h.ext.size
  exact ⟨t, O, rfl, hO.ord, h.ext.trans hO.ext (fun i hi e => by omega), hO.sc⟩

end
end Go.Proofs.Qxb6601557a
