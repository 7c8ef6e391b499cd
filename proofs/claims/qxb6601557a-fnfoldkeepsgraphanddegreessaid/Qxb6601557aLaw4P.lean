/-
  FnFoldKeepsGraphAndDegrees: THE STATEMENT. The frame is the guide's (proof-skeleton), turned to this function. By an AI agent.
-/
import Derived.Test.Qxb6601557aRows
import Derived.Test.Qxb6601557aLaw4
import Derived.Test.Qxb6601557aOpen
namespace Go.Proofs.Qxb6601557a
set_option linter.unusedVariables false
open Go.ChangeShapes Go.WideShapes Go.ChangeAt Go.RowKit

set_option maxRecDepth 100000 in
theorem lifted4 (os : Os) (started : os.Started) (H : Type) (enc : TypeId × Value → H) :
    ReturnsInHanded {} Try.checked os 4 .any (Rows.fnFoldKeepsGraphAndDegreesSpec.pre6 enc Try.prog Try.f4 Rows.fnFoldKeepsGraphAndDegreesRow.domain false) (Rows.fnFoldKeepsGraphAndDegreesSpec.post enc Try.prog Try.f4 false true false false) := by
  refine returnsInHanded_of_change_sized (C := Try.checked) ownF started (by kernel_rfl) Try.func4
    (ChangeSpec.witness6 (enc := enc) (C := Try.checked) false ⟨#[], #[.slice none 0 0, .slice none 0 0, .slice none 0 0, .int .i64 0], []⟩ 8 (by kernel_rfl) (by kernel_rfl) (by kernel_rfl) (by kernel_rfl)) ?_
  intro W base args ds gs before hval0 hW hcnd hsz0 _
  have hval : ∀ (j : Nat) t v, Try.f4.params[j]? = some t → args[j]? = some v → Value.okWide Try.prog W .any base t v := hval0
  have hW' := hW
  obtain ⟨p, q, hA0, hV, rfl, hfz, hnd⟩ := hW
  have hA : DataW.TrodAll enc Try.prog W 0 (fun _ => true) true Try.f4.params.toList args.toList ds p := hA0
  rw [Try.params4] at hA hval
  obtain ⟨v0, vs0, d0, ds0, p0, q0, hargs, rfl, rfl, h0, r0⟩ := trodAll_cons hA
  obtain ⟨v1, vs1, d1, ds1, p1, q1, rfl, rfl, rfl, h1, r1⟩ := trodAll_cons r0
  obtain ⟨v2, vs2, d2, ds2, p2, q2, rfl, rfl, rfl, h2, r2⟩ := trodAll_cons r1
  obtain ⟨v3, vs3, d3, ds3, p3, q3, rfl, rfl, rfl, h3, r3⟩ := trodAll_cons r2
  obtain ⟨rfl, rfl, rfl⟩ := trodAll_nil r3
  obtain rfl : args = #[v0, v1, v2, v3] := by cases args; simp_all
  obtain ⟨rfl, rfl⟩ := trodVars_none hV
  obtain ⟨a0, l0, c0, rfl⟩ := okWide_slice Try.underlying22 (hval 0 22 v0 rfl rfl)
  obtain ⟨a1, l1, c1, rfl⟩ := okWide_slice Try.underlying23 (hval 1 23 v1 rfl rfl)
  obtain ⟨a2, l2, c2, rfl⟩ := okWide_slice Try.underlying24 (hval 2 24 v2 rfl rfl)
  obtain ⟨steps, rfl⟩ := okWide_int Try.underlying3 (hval 3 3 v3 rfl rfl)
  have lt0 : ∀ x ∈ p0, x.block < W.heap.size := by obtain ⟨m, hm⟩ := h0; exact DataW.trod_lt m _ _ _ hm
  have lt1 : ∀ x ∈ p1, x.block < W.heap.size := by obtain ⟨m, hm⟩ := h1; exact DataW.trod_lt m _ _ _ hm
  have lt2 : ∀ x ∈ p2, x.block < W.heap.size := by obtain ⟨m, hm⟩ := h2; exact DataW.trod_lt m _ _ _ hm
  have lt3 : ∀ x ∈ p3, x.block < W.heap.size := by obtain ⟨m, hm⟩ := h3; exact DataW.trod_lt m _ _ _ hm
  obtain ⟨d, A, w0, n0⟩ := open_Adj Try.underlying22 Try.underlying24 Try.underlying3 (by kernel_rfl) (by kernel_rfl) h0
  obtain ⟨st, w1, n1⟩ := open_I Try.underlying23 Try.underlying39 (by kernel_rfl) h1
  obtain ⟨dg, w2, n2⟩ := open_I Try.underlying24 Try.underlying3 (by kernel_rfl) h2
  have hsz : (DataW.weightsEach Try.prog [22, 23, 24, 3] [d0, d1, d2, d3]).all (· ≤ reachBytes) = true := hsz0
  have b0 := len_bound hsz (j := 0) rfl rfl Try.underlying22 bytesF24 n0
  have b1 := len_bound hsz (j := 1) rfl rfl Try.underlying23 bytesF39 n1
  have b2 := len_bound hsz (j := 2) rfl rfl Try.underlying24 bytesF3 n2
  clear hA0 hval0
  refine (law4 W _ a0 a1 a2 l0 c0 l1 c1 l2 c2 d A st dg steps (by omega) (by omega) (by omega) w0 w1 w2).mono fun e W' ⟨he, hx⟩ => ?_
  subst he
  have bel : Below W.heap.size W W' := hx.below (Nat.le_refl _) (fun _ _ h => h)
  exact ⟨_, rfl, _, _, _, [], _, [], hW', trodAll_mk1 (shut_bool Try.underlying4 _),
    (trodAll_cons_mk (Below.trod laidF (by kernel_rfl) (of_decide_eq_true (by kernel_rfl)) h0 bel lt0) (trodAll_cons_mk (Below.trod laidF (by kernel_rfl) (of_decide_eq_true (by kernel_rfl)) h1 bel lt1) (trodAll_cons_mk (Below.trod laidF (by kernel_rfl) (of_decide_eq_true (by kernel_rfl)) h2 bel lt2) (trodAll_cons_mk (Below.trod laidF (by kernel_rfl) (of_decide_eq_true (by kernel_rfl)) h3 bel lt3) trodAll_mk0)))), rfl, bel.frame _, fun h => by cases h⟩

theorem over4 : Rows.fnFoldKeepsGraphAndDegreesRow.holds Try.pinned (OpenSpec.ofChange Rows.fnFoldKeepsGraphAndDegreesSpec) :=
  OpenClaim.holds_of_wide 4 Try.f4 rfl rfl rfl rfl rfl rfl rfl ⟨rfl, rfl, rfl, rfl, rfl⟩ rfl rfl rfl rfl rfl (by kernel_rfl) Try.func4 (by kernel_rfl)
    (of_decide_eq_true (by kernel_rfl)) (by unfold Func.isWrapper; first | (rw [if_pos (by decide +kernel)]; kernel_rfl) | (rw [if_neg (by decide +kernel)]; exact ⟨rfl, rfl⟩))
    (fun os started H enc _ => lifted4 os started H enc)

/-- THE STATEMENT. -/
theorem foldKeepsGraph : Rows.FnFoldKeepsGraphAndDegreesSaid := over4
end Go.Proofs.Qxb6601557a
