/-
  What the model of triangleThread reads, beside its own marks. By an AI agent.
-/
import Derived.Test.Qxb6601557aBest
import Derived.Test.Qxb6601557aScan
namespace Go.Proofs.Qxb6601557a
set_option linter.unusedVariables false
open Go.RowKit

/-- a copied scratch: the block that it alone may lie in. -/
theorem pickSc {w w' : World} {a a' : Option Addr} {n lo : Nat} {f : Nat → Value} (hc : Copied 3 w w' a a' n f) (hlo : lo < w.heap.size) :
    ∃ bsc, Own (fun k => k = bsc) 3 w' a' n n f ∧ bsc < w'.heap.size ∧ lo ≤ bsc ∧ (0 < n → bsc = w.heap.size) := by
  have hs := hc.ext.size
  cases ha : a' with
  | none =>
    have hn : n = 0 := hc.own.rd.nil0 ha
    subst hn
    exact ⟨lo, Own.nil, by omega, Nat.le_refl _, fun h => by omega⟩
  | some x =>
    have ho := hc.own
    rw [ha] at ho
    refine ⟨w.heap.size, ho, ?_, by omega, fun _ => rfl⟩
    rcases ho with ⟨h, _⟩ | ⟨g, cur, h, hS, hg, _⟩
    · cases h
    · obtain rfl : g = w.heap.size := hS
      exact (Array.getElem?_eq_some_iff.1 hg).1

theorem Rd.away {T : Nat → Prop} {w : World} {a : Option Addr} {n bsc : Nat} {f : Nat → Value} (h : Rd T w a n f) (hb : 0 < n → bsc = w.heap.size) : Rd (fun k => k ≠ bsc) w a n f := by
  rcases Nat.eq_zero_or_pos n with h0 | h0
  · intro j hj; omega
  · exact h.mono_lt (fun k hk _ => by have := hb h0; omega)
theorem RdAdj.away {T : Nat → Prop} {w : World} {a : Option Addr} {n bsc : Nat} {d : Nat → Nat} {A : Nat → Nat → Int} (h : RdAdj T w a n d A) (hb : 0 < n → bsc = w.heap.size) : RdAdj (fun k => k ≠ bsc) w a n d A := by
  rcases Nat.eq_zero_or_pos n with h0 | h0
  · intro j hj; omega
  · exact h.mono_lt (fun k hk _ => by have := hb h0; omega)

structure M7 (w : World) (g n : Nat) (d : Nat → Nat) (N : Nat → Nat → Nat) (st dg : Nat → Int) (pl ok : Nat → Bool) (np : Nat) (P : Nat → Nat) (b0 b1 b2 b5 b6 asc : Option Addr) : Prop where
  scn : ScanIn w g (fun k => k ≠ g) n d N st pl ok b0 b1 b5
  deg : Rd (fun k => k ≠ g) w b2 n (fun j => .int .i64 (dg j))
  plc : Rd (fun k => k ≠ g) w b6 np (fun j => .int .i64 (P j : Int))
  sc : Rd (fun k => k ≠ g) w asc n (fun _ => .int .i64 0)

theorem M7.later {w w' : World} {g n : Nat} {d : Nat → Nat} {N : Nat → Nat → Nat} {st dg : Nat → Int} {pl ok : Nat → Bool} {np : Nat} {P : Nat → Nat} {b0 b1 b2 b5 b6 asc : Option Addr} (h : M7 w g n d N st dg pl ok np P b0 b1 b2 b5 b6 asc) (hx : Ext (fun k => k = g) w w') : M7 w' g n d N st dg pl ok np P b0 b1 b2 b5 b6 asc :=
  ⟨⟨h.scn.adj.ext hx (fun _ h => h), h.scn.sta.ext hx (fun _ h => h), h.scn.plr.ext hx (fun _ h => h), h.scn.out, h.scn.gr, h.scn.okq⟩, h.deg.ext hx (fun _ h => h), h.plc.ext hx (fun _ h => h), h.sc.ext hx (fun _ h => h)⟩

theorem ScS.trans {w w' wr : World} {g n cm : Nat} {f f' : Nat → Bool} (h : ScS w w' g n cm f) (h2 : ScS w' wr g n cm f') : ScS w wr g n cm f' := ⟨h.ext.trans h2.ext (fun _ _ h => h), h2.own⟩
theorem ScS.drewN {w w' : World} {g n cm : Nat} {f : Nat → Bool} (h : ScS w w' g n cm f) (k : Nat) : ScS w (w'.drewN k) g n cm f := ⟨h.ext.drewN k, h.own.drewN k⟩

theorem TopIs.uniq {D : Nat → Int} {m t u : Nat} (h : TopIs D m t) (h2 : TopIs D m u) (h0 : ∀ i, i < m → 0 ≤ D i) : t = u := by
  rcases h.at_ with e | ⟨i, hi, e⟩ <;> rcases h2.at_ with e' | ⟨j, hj, e'⟩
  · omega
  · have := h.le j hj; have := h2.le j hj; omega
  · have := h.le i hi; have := h2.le i hi; omega
  · have := h.le j hj; have := h2.le i hi; omega

/-- the best place as the program holds it. -/
def bI (o : Option Nat) : Int := match o with | none => -1 | some b => (b : Int)

/-- the thread of the best place. -/
def bP (P : Nat → Nat) (o : Option Nat) : Nat := match o with | some b => P b | none => 0

theorem tt_thread {d : Nat → Nat} {N : Nat → Nat → Nat} {ok pl : Nat → Bool} {np t : Nat} {dg : Nat → Int} {P O : Nat → Nat} (ho : OrdOk np dg P t O) (hd : ∀ i, i < np → 0 ≤ dg (P i)) : ttP (ttTo d N ok pl O np) O = bP P (bstT d N ok pl dg P np) ∧ (ttTo d N ok pl O np).1.isSome = (bstT d N ok pl dg P np).isSome := tt_place ho hd

end Go.Proofs.Qxb6601557a
