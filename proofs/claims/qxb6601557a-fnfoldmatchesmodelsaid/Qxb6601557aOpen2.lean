/-
  From the data that a row hands over: bools. By an AI agent.
-/
import Derived.Test.Qxb6601557aOpen
import Derived.Deep.Grids
namespace Go.Proofs.Qxb6601557a
set_option linter.unusedVariables false
open Go.ChangeShapes Go.WideShapes Go.ChangeAt Go.RowKit

section
variable {H : Type} {enc : TypeId × Value → H} {P : Program} {W : World}

theorem open_B {t e : TypeId} {a : Option Addr} {len cap : Nat} {d : DataW H} {ps : List MemPlace} (ht : P.underlying t = some (.slice e)) (he : P.underlying e = some .bool) (hc : P.cellsOf e = 1)
    (h : DataW.Trod enc P W 0 (fun _ => true) true t (.slice a len cap) d ps) : ∃ f : Nat → Bool, Rd (fun b => b < W.heap.size) W a len (fun j => .bool (f j)) ∧ LenIs d len := by
  obtain ⟨fuel, hf⟩ := h
  rcases Deep.open_bools ht he hc hf with ⟨hcs, hx⟩ | ⟨x, l, c, B, hcs, _, hl, hm, hx, hcell⟩
  · simp [Value.cells] at hcs
    obtain ⟨rfl, rfl, rfl⟩ := hcs
    simp only [Prod.mk.injEq] at hx
    exact ⟨fun _ => false, Rd.nil, .inl ⟨hx.1, rfl⟩⟩
  · simp [Value.cells] at hcs
    obtain ⟨rfl, rfl, rfl⟩ := hcs
    simp only [Prod.mk.injEq] at hx
    refine ⟨B, fun j hj => ?_, .inr ⟨_, _, hx.1, by simp⟩⟩
    have hc0 := hcell 0 (by omega)
    have hspot : x.spot = none := by simpa [Addr.add] using World.cell?_spot hc0
    obtain ⟨e1, e2⟩ := addr_plain (hcell j (by omega)) hspot
    exact ⟨x.block, x.off, by rw [← e1], World.block_lt_of_cell? W ⟨x.block, x.off + j, none⟩ e2, e2⟩
end
end Go.Proofs.Qxb6601557a
