/-
  FnFoldMatchesModel: THE STATEMENT. The frame is the guide's (proof-skeleton), turned to this function. By an AI agent.
-/
import Derived.Test.Qxb6601557aRows
import Derived.Test.Qxb6601557aLaw3S0
import Derived.Test.Qxb6601557aLaw3S1
import Derived.Test.Qxb6601557aLaw3S2
import Derived.Test.Qxb6601557aLaw3S3
import Derived.Test.Qxb6601557aLaw3S4
import Derived.Test.Qxb6601557aLaw3S5
import Derived.Test.Qxb6601557aLaw3S6
import Derived.Test.Qxb6601557aLaw3S6a
import Derived.Test.Qxb6601557aLaw3S6b
import Derived.Test.Qxb6601557aLaw3S6c
import Derived.Test.Qxb6601557aOpen
import Derived.Test.Qxb6601557aOpen2
import Derived.Test.Qxb6601557aOpen3
namespace Go.Proofs.Qxb6601557a
set_option linter.unusedVariables false
open Go.ChangeShapes Go.WideShapes Go.ChangeAt Go.RowKit

theorem bytesF42 : Try.prog.bytesOf 42 = 32 := by kernel_rfl

theorem whole22 : Seg22 := seg22 (seg48 (seg68 (seg87 (seg103 (seg111 pass0 pass1 pass2)))))

set_option maxHeartbeats 4000000 in
set_option maxRecDepth 100000 in
theorem lifted3 (os : Os) (started : os.Started) (H : Type) (enc : TypeId × Value → H) :
    ReturnsInHanded {} Try.checked os 3 .any (Rows.fnFoldMatchesModelSpec.pre6 enc Try.prog Try.f3 Rows.fnFoldMatchesModelRow.domain false) (Rows.fnFoldMatchesModelSpec.post enc Try.prog Try.f3 false true false false) := by
  refine returnsInHanded_of_change_sized (C := Try.checked) ownF started (by kernel_rfl) Try.func3
    (ChangeSpec.witness6 (enc := enc) (C := Try.checked) false ⟨#[], #[.slice none 0 0, .slice none 0 0, .slice none 0 0, .slice none 0 0, .int .i64 0, .slice none 0 0, .slice none 0 0, .slice none 0 0, .slice none 0 0, .slice none 0 0, .slice none 0 0, .int .i64 0], []⟩ 8 (by kernel_rfl) (by kernel_rfl) (by kernel_rfl) (by kernel_rfl)) ?_
  intro W base args ds gs before hval0 hW hcnd hsz0 _
  have hval : ∀ (j : Nat) t v, Try.f3.params[j]? = some t → args[j]? = some v → Value.okWide Try.prog W .any base t v := hval0
  have hW' := hW
  obtain ⟨p, q, hA0, hV, rfl, hfz, hnd⟩ := hW
  have hA : DataW.TrodAll enc Try.prog W 0 (fun _ => true) true Try.f3.params.toList args.toList ds p := hA0
  rw [Try.params3] at hA hval
  obtain ⟨v0, vs0, d0, ds0, p0, q0, hargs, rfl, rfl, h0, r0⟩ := trodAll_cons hA
  obtain ⟨v1, vs1, d1, ds1, p1, q1, rfl, rfl, rfl, h1, r1⟩ := trodAll_cons r0
  obtain ⟨v2, vs2, d2, ds2, p2, q2, rfl, rfl, rfl, h2, r2⟩ := trodAll_cons r1
  obtain ⟨v3, vs3, d3, ds3, p3, q3, rfl, rfl, rfl, h3, r3⟩ := trodAll_cons r2
  obtain ⟨v4, vs4, d4, ds4, p4, q4, rfl, rfl, rfl, h4, r4⟩ := trodAll_cons r3
  obtain ⟨v5, vs5, d5, ds5, p5, q5, rfl, rfl, rfl, h5, r5⟩ := trodAll_cons r4
  obtain ⟨v6, vs6, d6, ds6, p6, q6, rfl, rfl, rfl, h6, r6⟩ := trodAll_cons r5
  obtain ⟨v7, vs7, d7, ds7, p7, q7, rfl, rfl, rfl, h7, r7⟩ := trodAll_cons r6
  obtain ⟨v8, vs8, d8, ds8, p8, q8, rfl, rfl, rfl, h8, r8⟩ := trodAll_cons r7
  obtain ⟨v9, vs9, d9, ds9, p9, q9, rfl, rfl, rfl, h9, r9⟩ := trodAll_cons r8
  obtain ⟨v10, vs10, d10, ds10, p10, q10, rfl, rfl, rfl, h10, r10⟩ := trodAll_cons r9
  obtain ⟨v11, vs11, d11, ds11, p11, q11, rfl, rfl, rfl, h11, r11⟩ := trodAll_cons r10
  obtain ⟨rfl, rfl, rfl⟩ := trodAll_nil r11
  obtain rfl : args = #[v0, v1, v2, v3, v4, v5, v6, v7, v8, v9, v10, v11] := by cases args; simp_all
  obtain ⟨rfl, rfl⟩ := trodVars_none hV
  obtain ⟨a0, l0, c0, rfl⟩ := okWide_slice Try.underlying22 (hval 0 22 v0 rfl rfl)
  obtain ⟨a1, l1, c1, rfl⟩ := okWide_slice Try.underlying23 (hval 1 23 v1 rfl rfl)
  obtain ⟨a2, l2, c2, rfl⟩ := okWide_slice Try.underlying24 (hval 2 24 v2 rfl rfl)
  obtain ⟨a3, l3, c3, rfl⟩ := okWide_slice Try.underlying24 (hval 3 24 v3 rfl rfl)
  obtain ⟨z4, rfl⟩ := okWide_int Try.underlying3 (hval 4 3 v4 rfl rfl)
  obtain ⟨a5, l5, c5, rfl⟩ := okWide_slice Try.underlying25 (hval 5 25 v5 rfl rfl)
  obtain ⟨a6, l6, c6, rfl⟩ := okWide_slice Try.underlying24 (hval 6 24 v6 rfl rfl)
  obtain ⟨a7, l7, c7, rfl⟩ := okWide_slice Try.underlying26 (hval 7 26 v7 rfl rfl)
  obtain ⟨a8, l8, c8, rfl⟩ := okWide_slice Try.underlying24 (hval 8 24 v8 rfl rfl)
  obtain ⟨a9, l9, c9, rfl⟩ := okWide_slice Try.underlying23 (hval 9 23 v9 rfl rfl)
  obtain ⟨a10, l10, c10, rfl⟩ := okWide_slice Try.underlying24 (hval 10 24 v10 rfl rfl)
  obtain ⟨z11, rfl⟩ := okWide_int Try.underlying3 (hval 11 3 v11 rfl rfl)
  have lt0 : ∀ x ∈ p0, x.block < W.heap.size := by obtain ⟨m, hm⟩ := h0; exact DataW.trod_lt m _ _ _ hm
  have lt1 : ∀ x ∈ p1, x.block < W.heap.size := by obtain ⟨m, hm⟩ := h1; exact DataW.trod_lt m _ _ _ hm
  have lt2 : ∀ x ∈ p2, x.block < W.heap.size := by obtain ⟨m, hm⟩ := h2; exact DataW.trod_lt m _ _ _ hm
  have lt3 : ∀ x ∈ p3, x.block < W.heap.size := by obtain ⟨m, hm⟩ := h3; exact DataW.trod_lt m _ _ _ hm
  have lt4 : ∀ x ∈ p4, x.block < W.heap.size := by obtain ⟨m, hm⟩ := h4; exact DataW.trod_lt m _ _ _ hm
  have lt5 : ∀ x ∈ p5, x.block < W.heap.size := by obtain ⟨m, hm⟩ := h5; exact DataW.trod_lt m _ _ _ hm
  have lt6 : ∀ x ∈ p6, x.block < W.heap.size := by obtain ⟨m, hm⟩ := h6; exact DataW.trod_lt m _ _ _ hm
  have lt7 : ∀ x ∈ p7, x.block < W.heap.size := by obtain ⟨m, hm⟩ := h7; exact DataW.trod_lt m _ _ _ hm
  have lt8 : ∀ x ∈ p8, x.block < W.heap.size := by obtain ⟨m, hm⟩ := h8; exact DataW.trod_lt m _ _ _ hm
  have lt9 : ∀ x ∈ p9, x.block < W.heap.size := by obtain ⟨m, hm⟩ := h9; exact DataW.trod_lt m _ _ _ hm
  have lt10 : ∀ x ∈ p10, x.block < W.heap.size := by obtain ⟨m, hm⟩ := h10; exact DataW.trod_lt m _ _ _ hm
  have lt11 : ∀ x ∈ p11, x.block < W.heap.size := by obtain ⟨m, hm⟩ := h11; exact DataW.trod_lt m _ _ _ hm
  obtain ⟨d, A, w0, n0⟩ := open_Adj Try.underlying22 Try.underlying24 Try.underlying3 (by kernel_rfl) (by kernel_rfl) h0
  obtain ⟨st, w1, n1⟩ := open_I Try.underlying23 Try.underlying39 (by kernel_rfl) h1
  obtain ⟨dg, w2, n2⟩ := open_I Try.underlying24 Try.underlying3 (by kernel_rfl) h2
  obtain ⟨tr, w3, n3⟩ := open_I Try.underlying24 Try.underlying3 (by kernel_rfl) h3
  obtain ⟨F0, w5, n5⟩ := open_F Try.underlying25 Try.underlying42 Try.underlying3 (by kernel_rfl) (by kernel_rfl) h5
  obtain ⟨tu, w6, n6⟩ := open_I Try.underlying24 Try.underlying3 (by kernel_rfl) h6
  obtain ⟨qu, w7, n7⟩ := open_B Try.underlying26 Try.underlying4 (by kernel_rfl) h7
  obtain ⟨ma, w8, n8⟩ := open_I Try.underlying24 Try.underlying3 (by kernel_rfl) h8
  obtain ⟨sd, w9, n9⟩ := open_I Try.underlying23 Try.underlying39 (by kernel_rfl) h9
  obtain ⟨sc, w10, n10⟩ := open_I Try.underlying24 Try.underlying3 (by kernel_rfl) h10
  have hsz : (DataW.weightsEach Try.prog [22, 23, 24, 24, 3, 25, 24, 26, 24, 23, 24, 3] [d0, d1, d2, d3, d4, d5, d6, d7, d8, d9, d10, d11]).all (· ≤ reachBytes) = true := hsz0
  have b0 := len_bound hsz (j := 0) rfl rfl Try.underlying22 bytesF24 n0
  have b1 := len_bound hsz (j := 1) rfl rfl Try.underlying23 bytesF39 n1
  have b2 := len_bound hsz (j := 2) rfl rfl Try.underlying24 bytesF3 n2
  have b3 := len_bound hsz (j := 3) rfl rfl Try.underlying24 bytesF3 n3
  have b5 := len_bound hsz (j := 5) rfl rfl Try.underlying25 bytesF42 n5
  have b6 := len_bound hsz (j := 6) rfl rfl Try.underlying24 bytesF3 n6
  have b7 := len_bound hsz (j := 7) rfl rfl Try.underlying26 bytesF4 n7
  have b8 := len_bound hsz (j := 8) rfl rfl Try.underlying24 bytesF3 n8
  have b9 := len_bound hsz (j := 9) rfl rfl Try.underlying23 bytesF39 n9
  have b10 := len_bound hsz (j := 10) rfl rfl Try.underlying24 bytesF3 n10
  clear hA0 hval0
  refine (law3_of whole22 W _ a0 a1 a2 a3 a5 a6 a7 a8 a9 a10 l0 c0 l1 c1 l2 c2 l3 c3 l5 c5 l6 c6 l7 c7 l8 c8 l9 c9 l10 c10 d A st dg tr tu qu ma sd sc F0 z4 z11 (by omega) (by omega) (by omega) (by omega) (by omega) (by omega) (by omega) (by omega) (by omega) (by omega) w0 w1 w2 w3 w5 w6 w7 w8 w9 w10).mono fun e W' ⟨he, hx⟩ => ?_
  subst he
  have bel : Below W.heap.size W W' := hx.below (Nat.le_refl _) (fun _ _ h => h)
  exact ⟨_, rfl, _, _, _, [], _, [], hW', trodAll_mk1 (shut_bool Try.underlying4 _),
    (trodAll_cons_mk (Below.trod laidF (by kernel_rfl) (of_decide_eq_true (by kernel_rfl)) h0 bel lt0) (trodAll_cons_mk (Below.trod laidF (by kernel_rfl) (of_decide_eq_true (by kernel_rfl)) h1 bel lt1) (trodAll_cons_mk (Below.trod laidF (by kernel_rfl) (of_decide_eq_true (by kernel_rfl)) h2 bel lt2) (trodAll_cons_mk (Below.trod laidF (by kernel_rfl) (of_decide_eq_true (by kernel_rfl)) h3 bel lt3) (trodAll_cons_mk (Below.trod laidF (by kernel_rfl) (of_decide_eq_true (by kernel_rfl)) h4 bel lt4) (trodAll_cons_mk (Below.trod laidF (by kernel_rfl) (of_decide_eq_true (by kernel_rfl)) h5 bel lt5) (trodAll_cons_mk (Below.trod laidF (by kernel_rfl) (of_decide_eq_true (by kernel_rfl)) h6 bel lt6) (trodAll_cons_mk (Below.trod laidF (by kernel_rfl) (of_decide_eq_true (by kernel_rfl)) h7 bel lt7) (trodAll_cons_mk (Below.trod laidF (by kernel_rfl) (of_decide_eq_true (by kernel_rfl)) h8 bel lt8) (trodAll_cons_mk (Below.trod laidF (by kernel_rfl) (of_decide_eq_true (by kernel_rfl)) h9 bel lt9) (trodAll_cons_mk (Below.trod laidF (by kernel_rfl) (of_decide_eq_true (by kernel_rfl)) h10 bel lt10) (trodAll_cons_mk (Below.trod laidF (by kernel_rfl) (of_decide_eq_true (by kernel_rfl)) h11 bel lt11) trodAll_mk0)))))))))))), rfl, bel.frame _, fun h => by cases h⟩

theorem over3 : Rows.fnFoldMatchesModelRow.holds Try.pinned (OpenSpec.ofChange Rows.fnFoldMatchesModelSpec) :=
  OpenClaim.holds_of_wide 3 Try.f3 rfl rfl rfl rfl rfl rfl rfl ⟨rfl, rfl, rfl, rfl, rfl⟩ rfl rfl rfl rfl rfl (by kernel_rfl) Try.func3 (by kernel_rfl)
    (of_decide_eq_true (by kernel_rfl)) (by unfold Func.isWrapper; first | (rw [if_pos (by decide +kernel)]; kernel_rfl) | (rw [if_neg (by decide +kernel)]; exact ⟨rfl, rfl⟩))
    (fun os started H enc _ => lifted3 os started H enc)

/-- THE STATEMENT. -/
theorem foldMatchesModel : Rows.FnFoldMatchesModelSaid := over3
end Go.Proofs.Qxb6601557a
