/-
  From the data that a row hands over: elements of four numbers. By an AI agent.
-/
import Derived.Test.Qxb6601557aOpen
import Derived.Test.Qxb6601557aFolds
import Derived.Deep.Slices
import Derived.Laws.IdiomArrays
namespace Go.Proofs.Qxb6601557a
set_option linter.unusedVariables false
open Go.ChangeShapes Go.WideShapes Go.ChangeAt Go.RowKit

def four4 (a b c d : Int) : Nat → Int
  | 0 => a
  | 1 => b
  | 2 => c
  | _ => d

section
variable {H : Type} {enc : TypeId × Value → H} {P : Program} {W : World}

theorem list_four {α : Type} : ∀ (l : List α), l.length = 4 → ∃ a b c d, l = [a, b, c, d]
  | [a, b, c, d], _ => ⟨a, b, c, d, rfl⟩
  | [], h => by simp at h
  | [_], h => by simp at h
  | [_, _], h => by simp at h
  | [_, _, _], h => by simp at h
  | _ :: _ :: _ :: _ :: _ :: _, h => by simp at h

theorem open_F {t e q : TypeId} {a : Option Addr} {len cap : Nat} {dd : DataW H} {ps : List MemPlace} (ht : P.underlying t = some (.slice e)) (he : P.underlying e = some (.array 4 q)) (hq : P.underlying q = some (.int .i64)) (ce : P.cellsOf e = 4) (cq : P.cellsOf q = 1)
    (h : DataW.Trod enc P W 0 (fun _ => true) true t (.slice a len cap) dd ps) : ∃ F : Nat → Nat → Int, Rd4 (fun b => b < W.heap.size) W a len F ∧ LenIs dd len := by
  obtain ⟨fuel, hf⟩ := h
  rcases Deep.open_slice ht hf with ⟨hcs, hx⟩ | ⟨x, l, c, m, nn, D, Pl, hcs, _, hl, hm, hmm, hx, hel⟩
  · simp [Value.cells] at hcs
    obtain ⟨rfl, rfl, rfl⟩ := hcs
    simp only [Prod.mk.injEq] at hx
    exact ⟨fun _ _ => 0, fun p hp => absurd hp (Nat.not_lt_zero p), .inl ⟨hx.1, rfl⟩⟩
  · simp [Value.cells] at hcs
    obtain ⟨rfl, rfl, rfl⟩ := hcs
    simp only [Prod.mk.injEq] at hx
    simp only [if_true] at hmm
    subst hmm
    have key : ∀ i, i < len → ∃ z : Nat → Int, W.cell? ((x.add (i * 4)).add 0) = some (.int .i64 (z 0)) ∧ W.cell? ((x.add (i * 4)).add 1) = some (.int .i64 (z 1)) ∧ W.cell? ((x.add (i * 4)).add 2) = some (.int .i64 (z 2)) ∧ W.cell? ((x.add (i * 4)).add 3) = some (.int .i64 (z 3)) := by
      intro i hi
      obtain ⟨cs, hc, htr⟩ := hel i (by omega)
      rw [ce] at hc
      obtain ⟨_, hlen, hcell⟩ := World.cells?_some hc
      obtain ⟨c0, c1, c2, c3, rfl⟩ := list_four cs hlen
      obtain ⟨y0, y1, y2, y3, _, _, h0, h1, h2, h3⟩ := trod_array4 he cq htr
      obtain ⟨z0, e0, _, _⟩ := DataW.trod_int hq h0
      obtain ⟨z1, e1, _, _⟩ := DataW.trod_int hq h1
      obtain ⟨z2, e2, _, _⟩ := DataW.trod_int hq h2
      obtain ⟨z3, e3, _, _⟩ := DataW.trod_int hq h3
      simp only [List.cons.injEq, and_true] at e0 e1 e2 e3
      subst e0 e1 e2 e3
      exact ⟨four4 z0 z1 z2 z3, hcell 0 (by omega), hcell 1 (by omega), hcell 2 (by omega), hcell 3 (by omega)⟩
    obtain ⟨F, hF⟩ := Deep.choose_lt key
    refine ⟨F, fun j hj => ?_, .inr ⟨_, _, hx.1, by simp⟩⟩
    obtain ⟨k0, k1, k2, k3⟩ := hF j hj
    have hspot : x.spot = none := by
      have h := World.cell?_spot (hF 0 (by omega)).1
      simpa [Addr.add] using h
    obtain ⟨b, o, s⟩ := x
    simp at hspot
    subst hspot
    rw [Addr.add_lit, Addr.add_lit] at k0 k1 k2 k3
    exact ⟨b, o, rfl, World.block_lt_of_cell? W ⟨b, o + j * 4, none⟩ k0, k0, k1, k2, k3⟩
end
end Go.Proofs.Qxb6601557a
