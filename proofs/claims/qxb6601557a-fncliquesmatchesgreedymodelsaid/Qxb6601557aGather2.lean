/-
  From the gathered arguments to the calls of ZZCliques. By an AI agent.
-/
import Derived.Test.Qxb6601557aGather
import Derived.Test.Qxb6601557aPlaces
namespace Go.Proofs.Qxb6601557a
set_option linter.unusedVariables false
open Go.RowKit

theorem RdAdj.congr {S : Nat → Prop} {w : World} {a : Option Addr} {n : Nat} {d : Nat → Nat} {A A' : Nat → Nat → Int} (h : RdAdj S w a n d A) (hA : ∀ p, p < n → ∀ i, i < d p → A p i = A' p i) : RdAdj S w a n d A' := by
  intro p hp
  obtain ⟨b, off, ra, rc, ha, hS, hc, hm, hr⟩ := h p hp
  exact ⟨b, off, ra, rc, ha, hS, hc, hm, hr.congr (fun j hj => by rw [hA p hp j hj])⟩

/-- the graph's neighbours, and the places, as natural numbers. -/
def nb (A : Nat → Nat → Int) (p i : Nat) : Nat := (A p i).toNat
def pn (P : Nat → Int) (i : Nat) : Nat := (P i).toNat

theorem WF.nb {n : Nat} {d : Nat → Nat} {A : Nat → Nat → Int} (h : WF n d A) {p i : Nat} (hp : p < n) (hi : i < d p) : A p i = (nb A p i : Int) := by
  have := (h.row p hp).1 i hi
  unfold Go.Proofs.Qxb6601557a.nb; omega

theorem WF.gr {n : Nat} {d : Nat → Nat} {A : Nat → Nat → Int} (h : WF n d A) (hd : ∀ p, p < n → d p ≤ 131072) : Gr n d (Go.Proofs.Qxb6601557a.nb A) := by
  refine ⟨fun p hp i hi => ?_, fun p hp i j hi hj e => ?_, hd⟩
  · have := (h.row p hp).1 i hi
    have := h.nb hp hi
    omega
  · have e1 := h.nb hp hi
    have e2 := h.nb hp hj
    rcases Nat.lt_trichotomy i j with hl | hl | hl
    · have := (h.row p hp).2 i j hl hj; omega
    · exact hl
    · have := (h.row p hp).2 j i hl hi; omega

theorem pn_eq {n : Nat} {st dg P : Nat → Int} {k : Nat} (h : PlaceOk n st dg P k) : P k = (pn P k : Int) := by
  have := h.lo
  unfold pn; omega

section
variable {W w w' : World} {n : Nat} {d : Nat → Nat} {A : Nat → Nat → Int} {st dg : Nat → Int} {np : Nat} {P : Nat → Int} {a0 a1 a2 a3 : Option Addr} {b : Nat}

theorem RG.begin_ (W : World) : RG W W n d A st dg np P none none none none none :=
  ⟨Ext.refl _ _, fun b h => (by cases h), fun a h => (by cases h), fun a h => (by cases h), fun a h => (by cases h), fun a h => (by cases h)⟩

theorem RG.src (h : RG W w n d A st dg np P none (some a0) (some a1) (some a2) (some a3)) (hn : n ≤ 131072) (hnp : np ≤ 131072) (hd : ∀ p, p < n → d p ≤ 131072) : Src w n d A st dg np P a0 a1 a2 a3 :=
  ⟨(h.adj a0 rfl).mono (fun _ _ => trivial), (h.sta a1 rfl).mono (fun _ _ => trivial), (h.deg a2 rfl).mono (fun _ _ => trivial), (h.pl a3 rfl).mono (fun _ _ => trivial), hn, hnp, hd⟩

theorem RG.zin (h : RG W w n d A st dg np P (some b) (some a0) (some a1) (some a2) (some a3)) (hwf : WF n d A) (hpl : ∀ k, k < np → PlaceOk n st dg P k) (hd : ∀ p, p < n → d p ≤ 131072) :
    ZIn w b (NE (some b)) n d (nb A) st dg np (pn P) a0 a1 a2 (some ⟨b, 0, none⟩) a3 n := by
  refine ⟨(h.adj a0 rfl).congr (fun p hp i hi => hwf.nb hp hi), h.sta a1 rfl, h.deg a2 rfl, (h.sc b rfl).1, (h.pl a3 rfl).congr (fun j hj => by rw [pn_eq (hpl j hj)]), fun k hk e => hk (by rw [e]), (h.sc b rfl).1.head_lt, fun i hi => ?_, fun i j hi hj e => ?_, hwf.gr hd⟩
  · have hk := hpl i hi
    have := pn_eq hk
    have h1 := hk.hi
    exact ⟨by omega, hk.dlo, hk.dhi, hk.free⟩
  · have e1 := pn_eq (hpl i hi)
    have e2 := pn_eq (hpl j hj)
    rcases Nat.lt_trichotomy i j with hl | hl | hl
    · exact absurd (by omega) ((hpl j hj).new i hl)
    · exact hl
    · exact absurd (by omega) ((hpl i hi).new j hl)

/-- what is known behind the call of ZZCliques. -/
structure CliRes (W w' : World) (n : Nat) (d : Nat → Nat) (N : Nat → Nat → Nat) (dg : Nat → Int) (np : Nat) (P : Nat → Nat) (t : Nat) (O : Nat → Nat) (aC : Option Addr) (capC b : Nat) : Prop where
  ord : OrdOk np dg P t O
  ext : Ext (fun _ => False) W w'
  rows : ∃ (R : Nat → Option Addr) (cp : Nat → Nat), Own (fun k => W.heap.size ≤ k) 24 w' aC (runC d N O np).nc capC (fun c => .slice (R c) ((runC d N O np).sz c) (cp c)) ∧
    ∀ c, c < (runC d N O np).nc → Own (fun k => W.heap.size ≤ k) 3 w' (R c) ((runC d N O np).sz c) (cp c) (fun i => .int .i64 ((runC d N O np).el c i : Int))
  nil : (runC d N O np).nc = 0 → aC = none
  sc : Own (fun k => k = b) 3 w' (some ⟨b, 0, none⟩) n n (fun _ => .int .i64 0)

theorem RG.c30 (h : RG W w n d A st dg np P (some b) (some a0) (some a1) (some a2) (some a3)) (hwf : WF n d A) (hpl : ∀ k, k < np → PlaceOk n st dg P k) (hd : ∀ p, p < n → d p ≤ 131072) (hn : n ≤ 131072) (hnp : np ≤ 4096) (steps : Int) :
    Calls Try.prog 30 #[.slice a0 n n, .slice a1 n n, .slice a2 n n, .int .i64 steps, .slice (some ⟨b, 0, none⟩) n n, .slice a3 np np] w fun e w' => ∃ (t : Nat) (O : Nat → Nat) (aC : Option Addr) (capC : Nat),
      e = .returned (.tuple #[.slice aC (runC d (nb A) O np).nc capC, .int .i64 (wrap64 (steps + (2 * np + t) + sumD d O np)), .slice (some ⟨b, 0, none⟩) n n]) ∧ CliRes W w' n d (nb A) dg np (pn P) t O aC capC b := by
  refine (zzcliques_any w b _ n d (nb A) st dg np (pn P) a0 a1 a2 _ a3 n n n n np steps (h.zin hwf hpl hd) hn hnp).mono ?_
  rintro e w' ⟨t, O, aC, capC, rfl, hO⟩
  have hb := (h.sc b rfl).2
  have hs := h.ext.size
  refine ⟨t, O, aC, capC, rfl, hO.ord, h.ext.trans hO.ext (fun i hi e => by omega), ?_, hO.nil, hO.sc⟩
  obtain ⟨R, cp, h1, h2⟩ := hO.rows
  exact ⟨R, cp, h1.mono (fun k hk => by omega), fun c hc => (h2 c hc).mono (fun k hk => by omega)⟩

end
end Go.Proofs.Qxb6601557a
