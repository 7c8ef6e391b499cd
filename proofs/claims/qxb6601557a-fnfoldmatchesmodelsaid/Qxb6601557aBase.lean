/-
  Base: readings of memory by functions, 'Ext' (which blocks may have turned), small laws. By an AI agent.
-/
import Derived.Test.Qxb6601557aProg
import Derived.WalkKit
import Derived.WalkSpells
import Derived.WalkLawsBesides
import Derived.Deep.QuietTactic
import Derived.BigQuiet
namespace Go.Proofs.Qxb6601557a
open Go.RowKit

/-- n cells from address a on hold f; their block lies in S. -/
def Rd (S : Nat → Prop) (w : World) (a : Option Addr) (n : Nat) (f : Nat → Value) : Prop :=
  ∀ j, j < n → ∃ b off, a = some ⟨b, off, none⟩ ∧ S b ∧ w.cell? ⟨b, off + j, none⟩ = some (f j)

/-- a slice of slices of ints: n rows, row p of d p numbers A p. -/
def RdAdj (S : Nat → Prop) (w : World) (a : Option Addr) (n : Nat) (d : Nat → Nat) (A : Nat → Nat → Int) : Prop :=
  ∀ p, p < n → ∃ b off ra rc, a = some ⟨b, off, none⟩ ∧ S b ∧ w.cell? ⟨b, off + p, none⟩ = some (.slice ra (d p) rc) ∧
    d p ≤ 9223372036854775807 ∧ Rd S w ra (d p) (fun j => .int .i64 (A p j))

/-- the blocks of w below its size and outside S are in w' as they were. -/
structure Ext (S : Nat → Prop) (w w' : World) : Prop where
  os : w'.os = w.os
  tape : w'.tape = w.tape
  output : w'.output = w.output
  size : w.heap.size ≤ w'.heap.size
  block : ∀ k, k < w.heap.size → ¬ S k → w'.heap[k]? = w.heap[k]?

theorem Ext.refl (S : Nat → Prop) (w : World) : Ext S w w := ⟨rfl, rfl, rfl, Nat.le_refl _, fun _ _ _ => rfl⟩

theorem Ext.trans {S T : Nat → Prop} {a b c : World} (h : Ext S a b) (k : Ext T b c) (hT : ∀ i, i < a.heap.size → T i → S i) : Ext S a c :=
  ⟨k.os.trans h.os, k.tape.trans h.tape, k.output.trans h.output, Nat.le_trans h.size k.size,
    fun i hi hn => (k.block i (Nat.lt_of_lt_of_le hi h.size) (fun ht => hn (hT i hi ht))).trans (h.block i hi hn)⟩

theorem Ext.mono {S T : Nat → Prop} {a b : World} (h : Ext S a b) (hT : ∀ i, i < a.heap.size → S i → T i) : Ext T a b :=
  ⟨h.os, h.tape, h.output, h.size, fun i hi hn => h.block i hi (fun ht => hn (hT i hi ht))⟩

theorem Ext.drew {S : Nat → Prop} {a b : World} (h : Ext S a b) : Ext S a b.drew := ⟨h.os, h.tape, h.output, h.size, h.block⟩

theorem Ext.drewN {S : Nat → Prop} {a b : World} (h : Ext S a b) (n : Nat) : Ext S a (b.drewN n) := ⟨h.os, h.tape, h.output, h.size, h.block⟩

theorem Ext.alloc {S : Nat → Prop} {a b : World} (h : Ext S a b) (o : Obj) : Ext S a (b.alloc o) :=
  h.trans (T := fun _ => False) ⟨rfl, rfl, rfl, by simp, fun k hk _ => Below.heap_alloc _ _ _ hk⟩ (fun _ _ h => h.elim)

theorem Ext.setCell {S : Nat → Prop} {a b : World} (h : Ext S a b) {p : Addr} (hp : p.block < a.heap.size → S p.block) (u : Value) : Ext S a (b.setCell p u) :=
  h.trans (T := fun k => k = p.block) ⟨rfl, rfl, rfl, by simp [World.setCell], fun k _ hn => Below.heap_setCell _ _ _ _ hn⟩ (fun i hi e => by subst e; exact hp hi)

theorem Ext.grown {S : Nat → Prop} {a b c : World} {row : Option Nat} (h : Ext S a b) (hg : b.grownBy c row) (hr : ∀ k, row = some k → k < a.heap.size → S k) : Ext S a c :=
  h.trans (T := fun k => row = some k) ⟨hg.os, hg.tape, hg.output, hg.size, fun k hk hn => hg.block k hk (fun e => hn e.symm)⟩ (fun i hi e => hr i e hi)

theorem Ext.below {S : Nat → Prop} {w w' : World} {B : Nat} (h : Ext S w w') (hB : B ≤ w.heap.size) (hS : ∀ k, k < B → ¬ S k) : Below B w w' :=
  ⟨h.os, h.tape, h.output, h.size, fun k hk => h.block k (by omega) (hS k hk)⟩

/-- where a reading's blocks are as they were it reads as it did. -/
theorem Rd.kept {S : Nat → Prop} {w w' : World} {a : Option Addr} {n : Nat} {f : Nat → Value} (h : Rd S w a n f) (hb : ∀ k, S k → k < w.heap.size → w'.heap[k]? = w.heap[k]?) : Rd S w' a n f := by
  intro j hj
  obtain ⟨b, off, ha, hS, hc⟩ := h j hj
  have hlt : b < w.heap.size := World.block_lt_of_cell? w _ hc
  exact ⟨b, off, ha, hS, (World.cell?_of_block (a := ⟨b, off + j, none⟩) (hb b hS hlt)).trans hc⟩

theorem Rd.ext {S T : Nat → Prop} {w w' : World} {a : Option Addr} {n : Nat} {f : Nat → Value} (h : Rd S w a n f) (hx : Ext T w w') (hd : ∀ k, S k → ¬ T k) : Rd S w' a n f :=
  h.kept (fun k hS hk => hx.block k hk (hd k hS))

theorem Rd.mono {S T : Nat → Prop} {w : World} {a : Option Addr} {n : Nat} {f : Nat → Value} (h : Rd S w a n f) (hST : ∀ k, S k → T k) : Rd T w a n f := by
  intro j hj
  obtain ⟨b, off, ha, hS, hc⟩ := h j hj
  exact ⟨b, off, ha, hST _ hS, hc⟩

theorem Rd.congr {S : Nat → Prop} {w : World} {a : Option Addr} {n : Nat} {f g : Nat → Value} (h : Rd S w a n f) (hfg : ∀ j, j < n → f j = g j) : Rd S w a n g := by
  intro j hj
  obtain ⟨b, off, ha, hS, hc⟩ := h j hj
  exact ⟨b, off, ha, hS, by rw [hc, hfg j hj]⟩

theorem Rd.nil {S : Nat → Prop} {w : World} {a : Option Addr} {f : Nat → Value} : Rd S w a 0 f := fun j hj => absurd hj (Nat.not_lt_zero j)

theorem RdAdj.kept {S : Nat → Prop} {w w' : World} {a : Option Addr} {n : Nat} {d : Nat → Nat} {A : Nat → Nat → Int} (h : RdAdj S w a n d A) (hb : ∀ k, S k → k < w.heap.size → w'.heap[k]? = w.heap[k]?) : RdAdj S w' a n d A := by
  intro p hp
  obtain ⟨b, off, ra, rc, ha, hS, hc, hm, hr⟩ := h p hp
  have hlt : b < w.heap.size := World.block_lt_of_cell? w _ hc
  exact ⟨b, off, ra, rc, ha, hS, (World.cell?_of_block (a := ⟨b, off + p, none⟩) (hb b hS hlt)).trans hc, hm, hr.kept hb⟩

theorem RdAdj.ext {S T : Nat → Prop} {w w' : World} {a : Option Addr} {n : Nat} {d : Nat → Nat} {A : Nat → Nat → Int} (h : RdAdj S w a n d A) (hx : Ext T w w') (hd : ∀ k, S k → ¬ T k) : RdAdj S w' a n d A :=
  h.kept (fun k hS hk => hx.block k hk (hd k hS))

theorem RdAdj.mono {S T : Nat → Prop} {w : World} {a : Option Addr} {n : Nat} {d : Nat → Nat} {A : Nat → Nat → Int} (h : RdAdj S w a n d A) (hST : ∀ k, S k → T k) : RdAdj T w a n d A := by
  intro p hp
  obtain ⟨b, off, ra, rc, ha, hS, hc, hm, hr⟩ := h p hp
  exact ⟨b, off, ra, rc, ha, hST _ hS, hc, hm, hr.mono hST⟩

end Go.Proofs.Qxb6601557a
