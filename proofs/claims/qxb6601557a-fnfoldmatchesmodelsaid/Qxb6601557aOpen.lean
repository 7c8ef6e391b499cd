/-
  From the data that a row hands over to the readings of my walks. By an AI agent.
-/
import Derived.Test.Qxb6601557aBase
import Derived.ProofKit
import Derived.OpenShut
import Derived.ShutString
import Derived.ChangeOld
import Derived.Below
import Derived.SizedLaws
import Derived.Deep.Matrix
namespace Go.Proofs.Qxb6601557a
set_option linter.unusedVariables false
open Go.ChangeShapes Go.WideShapes Go.ChangeAt Go.RowKit

section
variable {H : Type} {enc : TypeId × Value → H} {P : Program} {W : World}

/-- how long the datum says that it is. -/
def LenIs (d : DataW H) (n : Nat) : Prop := (d = .nil ∧ n = 0) ∨ ∃ es sp, d = .slice es sp ∧ es.length = n

theorem addr_plain {w : World} {x : Addr} {v : Value} {j : Nat} (h : w.cell? (x.add j) = some v) (h0 : x.spot = none) : x = ⟨x.block, x.off, none⟩ ∧ w.cell? ⟨x.block, x.off + j, none⟩ = some v := by
  obtain ⟨b, o, s⟩ := x
  simp at h0
  subst h0
  exact ⟨rfl, by rw [← Addr.add_lit]; exact h⟩

theorem open_I {t e : TypeId} {k : IntKind} {a : Option Addr} {len cap : Nat} {d : DataW H} {ps : List MemPlace} (ht : P.underlying t = some (.slice e)) (he : P.underlying e = some (.int k)) (hc : P.cellsOf e = 1)
    (h : DataW.Trod enc P W 0 (fun _ => true) true t (.slice a len cap) d ps) : ∃ f : Nat → Int, Rd (fun b => b < W.heap.size) W a len (fun j => .int k (f j)) ∧ LenIs d len := by
  obtain ⟨fuel, hf⟩ := h
  rcases open_ints ht he hc hf with ⟨hcs, hx⟩ | ⟨x, l, c, zs, hcs, _, hl, hm, hz, hx, hcell, hwz⟩
  · simp [Value.cells] at hcs
    obtain ⟨rfl, rfl, rfl⟩ := hcs
    simp only [Prod.mk.injEq] at hx
    exact ⟨fun _ => 0, Rd.nil, .inl ⟨hx.1, rfl⟩⟩
  · simp [Value.cells] at hcs
    obtain ⟨rfl, rfl, rfl⟩ := hcs
    simp only [Prod.mk.injEq] at hx
    simp only [if_true] at hz
    refine ⟨fun j => zs.getD j 0, fun j hj => ?_, .inr ⟨_, _, hx.1, by simp [lits]; omega⟩⟩
    have hc0 := hcell 0 (by omega)
    have hspot : x.spot = none := by simpa [Addr.add] using World.cell?_spot hc0
    obtain ⟨e1, e2⟩ := addr_plain (hcell j (by omega)) hspot
    exact ⟨x.block, x.off, by rw [← e1], World.block_lt_of_cell? W ⟨x.block, x.off + j, none⟩ e2, e2⟩

theorem open_Adj {t e q : TypeId} {a : Option Addr} {len cap : Nat} {dd : DataW H} {ps : List MemPlace} (ht : P.underlying t = some (.slice e)) (he : P.underlying e = some (.slice q)) (hq : P.underlying q = some (.int .i64)) (ce : P.cellsOf e = 1) (cq : P.cellsOf q = 1)
    (h : DataW.Trod enc P W 0 (fun _ => true) true t (.slice a len cap) dd ps) : ∃ (d : Nat → Nat) (A : Nat → Nat → Int), RdAdj (fun b => b < W.heap.size) W a len d A ∧ LenIs dd len := by
  obtain ⟨fuel, hf⟩ := h
  rcases Deep.open_int_rows ht he hq ce cq hf with ⟨hcs, hx⟩ | ⟨x, l, c, AA, L, C, Z, hcs, _, hl, hm, hx, hrows⟩
  · simp [Value.cells] at hcs
    obtain ⟨rfl, rfl, rfl⟩ := hcs
    simp only [Prod.mk.injEq] at hx
    exact ⟨fun _ => 0, fun _ _ => 0, fun p hp => absurd hp (Nat.not_lt_zero p), .inl ⟨hx.1, rfl⟩⟩
  · simp [Value.cells] at hcs
    obtain ⟨rfl, rfl, rfl⟩ := hcs
    simp only [Prod.mk.injEq] at hx
    refine ⟨L, fun p i => (Z p).getD i 0, fun p hp => ?_, .inr ⟨_, _, hx.1, by simp⟩⟩
    have hc0 := (hrows 0 (by omega)).1
    have hspot : x.spot = none := by simpa [Addr.add] using World.cell?_spot hc0
    obtain ⟨h1, h2, h3, h4, h5, h6, h7⟩ := hrows p (by omega)
    obtain ⟨e1, e2⟩ := addr_plain h1 hspot
    refine ⟨x.block, x.off, AA p, C p, by rw [← e1], World.block_lt_of_cell? W ⟨x.block, x.off + p, none⟩ e2, e2, by unfold maxLen at h3; omega, ?_⟩
    intro j hj
    cases hA : AA p with
    | none => have := h6 hA; omega
    | some y =>
      obtain ⟨_, h8⟩ := h7 y hA
      have hs2 : y.spot = none := by simpa [Addr.add] using World.cell?_spot (h8 0 (by omega))
      obtain ⟨e3, e4⟩ := addr_plain (h8 j (by omega)) hs2
      exact ⟨y.block, y.off, by rw [← e3], World.block_lt_of_cell? W ⟨y.block, y.off + j, none⟩ e4, e4⟩

/-- the reach bounds the length. -/
theorem len_bound {ts : List TypeId} {ds : List (DataW H)} (h : (DataW.weightsEach P ts ds).all (· ≤ reachBytes) = true) {j : Nat} {t e : TypeId} {d : DataW H} {n bytes : Nat} (ht : ts[j]? = some t) (hd : ds[j]? = some d) (hu : P.underlying t = some (.slice e)) (hb : P.bytesOf e = bytes) (hl : LenIs d n) :
    n * bytes ≤ 140737488351232 := by
  rcases hl with ⟨_, rfl⟩ | ⟨es, sp, rfl, rfl⟩
  · omega
  · have := sized_slice h ht hd hu
    rw [hb] at this
    have h2 : es.length * bytes ≤ (es.length + sp.length) * bytes := Nat.mul_le_mul_right _ (by omega)
    unfold reachBytes at this
    omega

end
end Go.Proofs.Qxb6601557a
