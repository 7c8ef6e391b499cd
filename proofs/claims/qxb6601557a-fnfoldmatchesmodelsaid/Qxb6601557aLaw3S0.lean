/-
  FnFoldMatchesModel: the head. By an AI agent.
-/
import Derived.Test.Qxb6601557aLaw3C
namespace Go.Proofs.Qxb6601557a
set_option linter.unusedVariables false
open Go.RowKit

set_option maxHeartbeats 16000000 in
set_option maxRecDepth 100000 in
theorem law3_of (next : Seg22) (W : World) (S : Nat → Prop) (a0 a1 a2 a3 a5 a6 a7 a8 a9 a10 : Option Addr) (n c0 n1 c1 n2 c2 n3 c3 n5 c5 n6 c6 n7 c7 n8 c8 n9 c9 n10 c10 : Nat) (d : Nat → Nat) (A : Nat → Nat → Int) (st dg tr tu : Nat → Int) (qu : Nat → Bool) (ma sd sc : Nat → Int) (F0 : Nat → Nat → Int) (steps v : Int)
    (h0 : n ≤ 17592186044416) (h1 : n1 ≤ 140737488355328) (h2 : n2 ≤ 17592186044416) (h3 : n3 ≤ 17592186044416) (h5 : n5 ≤ 17592186044416) (h6 : n6 ≤ 17592186044416) (h7 : n7 ≤ 140737488355328) (h8 : n8 ≤ 17592186044416) (h9 : n9 ≤ 140737488355328) (h10 : n10 ≤ 17592186044416)
    (r0 : RdAdj S W a0 n d A) (r1 : Rd S W a1 n1 (fun j => .int .i8 (st j))) (r2 : Rd S W a2 n2 (fun j => .int .i64 (dg j))) (r3 : Rd S W a3 n3 (fun j => .int .i64 (tr j))) (r5 : Rd4 S W a5 n5 F0) (r6 : Rd S W a6 n6 (fun j => .int .i64 (tu j))) (r7 : Rd S W a7 n7 (fun j => .bool (qu j))) (r8 : Rd S W a8 n8 (fun j => .int .i64 (ma j))) (r9 : Rd S W a9 n9 (fun j => .int .i8 (sd j))) (r10 : Rd S W a10 n10 (fun j => .int .i64 (sc j))) :
    Calls Try.prog 3 #[.slice a0 n c0, .slice a1 n1 c1, .slice a2 n2 c2, .slice a3 n3 c3, .int .i64 steps, .slice a5 n5 c5, .slice a6 n6 c6, .slice a7 n7 c7, .slice a8 n8 c8, .slice a9 n9 c9, .slice a10 n10 c10, .int .i64 v] W (Fine W) := by
  go_enter Try.func3, Try.ntmps3
  go_wp2_with fail
  refine (bytes10_any S a0 n c0 d A W (by omega) r0 a1 n1 c1 a2 n2 c2 a3 n3 c3 steps a5 n5 c5 a6 n6 c6 a7 n7 c7 a8 n8 c8 a9 n9 c9 a10 n10 c10 v (by omega) (by omega) (by omega) (by omega) (by omega) (by omega) (by omega) (by omega) (by omega)).mono ?_
  rintro e w' ⟨⟨r, rfl⟩, hw⟩
  subst w'
  cases r with
  | false =>
    go_wp2_with fail
    go_ret
    exact ⟨rfl, Ext.refl _ _⟩
  | true =>

    by_cases hlen : n1 ≤ 1048576 ∧ n2 ≤ 131072 ∧ n3 ≤ 131072 ∧ n5 ≤ 32768 ∧ n6 ≤ 131072 ∧ n7 ≤ 1048576 ∧ n8 ≤ 131072 ∧ n9 ≤ 1048576 ∧ n10 ≤ 131072
    · obtain ⟨ln1, ln2, ln3, ln5, ln6, ln7, ln8, ln9, ln10⟩ := hlen
      have qn1 : decide ((1048576 : Int) < (n1 : Int)) = false := by simp; omega
      have qn2 : decide ((131072 : Int) < (n2 : Int)) = false := by simp; omega
      have qn3 : decide ((131072 : Int) < (n3 : Int)) = false := by simp; omega
      have qn5 : decide ((32768 : Int) < (n5 : Int)) = false := by simp; omega
      have qn6 : decide ((131072 : Int) < (n6 : Int)) = false := by simp; omega
      have qn7 : decide ((1048576 : Int) < (n7 : Int)) = false := by simp; omega
      have qn8 : decide ((131072 : Int) < (n8 : Int)) = false := by simp; omega
      have qn9 : decide ((1048576 : Int) < (n9 : Int)) = false := by simp; omega
      have qn10 : decide ((131072 : Int) < (n10 : Int)) = false := by simp; omega
      go_wp2_with fail
      refine (adjBytes_any S a0 n c0 d A W (by omega) r0).mono ?_
      rintro e w' ⟨t, rfl, hab, hw⟩
      subst w'
      have hlo := hab.lo
      have hhi := hab.hi
      by_cases hsum : t + n1 + 8 * n2 + 8 * n3 + 32 * n5 + 8 * n6 + n7 + 8 * n8 + n9 + 8 * n10 ≤ 1048576
      · obtain ⟨hn, hd⟩ := hab.ok (by omega)
        have HD : Hid (∀ p, p < n → d p ≤ 131072) := hd
        clear hd hab
        by_cases h7n : n7 = n
        · subst n7
          have e7 : ((n : Int) != (n : Int)) = false := by simp
          clear qn1 qn2 qn3 qn5 qn6 qn7 qn8 qn9 qn10
          go_wp2_with fail
          refine (premF_any S a0 a1 a2 n c0 n1 c1 n2 c2 d A st dg v W (by omega) HD.out r0 r1 (by omega) (by omega)).mono ?_
          rintro e w' ⟨⟨r, rfl, hprem⟩, hw⟩
          subst w'
          cases r with
          | false =>
            go_wp2_with fail
            go_ret
            exact ⟨rfl, Ext.refl _ _⟩
          | true =>
            obtain ⟨e1, e2, hwf, vn, u, w2, iu, iw, rfl, htwo⟩ := hprem rfl
            subst n1
            subst n2
            have hgn := hwf.gn HD.out
            have r0n := r0.congrF (A' := fun p i => (nbF A p i : Int)) (fun p hp i hi => hwf.nbF hp hi)
            have HTwo : Hid (Two n d (nbF A) st vn u w2 iu iw) := htwo
            have HGn : Hid (GN n d (nbF A)) := hgn
            have hG0 : Src3 W n n5 (mkX n n3 n6 n8 n9 n10 d A st dg tr tu qu ma sd sc steps) F0 (bX a0 a1 a2 a3 a5 a6 a7 a8 a9 a10) := by
              refine ⟨r0n.mono (fun _ _ => trivial), fun j hj hj0 => ?_, r5.mono (fun _ _ => trivial), rfl, by omega, HD.out, fun j hj => ?_, by omega⟩
              · have hlt := hj.lt
                match j, hlt, hj, hj0 with
                | 0, _, _, h => exact absurd rfl h
                | 1, _, _, _ => exact r1.mono (fun _ _ => trivial)
                | 2, _, _, _ => exact r2.mono (fun _ _ => trivial)
                | 3, _, _, _ => exact r3.mono (fun _ _ => trivial)
                | 4, _, h, _ => exact absurd rfl h.n4
                | 5, _, h, _ => exact absurd rfl h.n5
                | 6, _, h, _ => exact absurd rfl h.n6
                | 7, _, _, _ => exact r6.mono (fun _ _ => trivial)
                | 8, _, _, _ => exact r7.mono (fun _ _ => trivial)
                | 9, _, _, _ => exact r8.mono (fun _ _ => trivial)
                | 10, _, _, _ => exact r9.mono (fun _ _ => trivial)
                | 11, _, _, _ => exact r10.mono (fun _ _ => trivial)
              · have hlt := hj.lt
                match j, hlt, hj with
                | 0, _, _ => exact (show n ≤ 1048576 by omega)
                | 1, _, _ => exact (show n ≤ 1048576 by omega)
                | 2, _, _ => exact (show n ≤ 1048576 by omega)
                | 3, _, _ => exact (show n3 ≤ 1048576 by omega)
                | 4, _, h => exact absurd rfl h.n4
                | 5, _, h => exact absurd rfl h.n5
                | 6, _, h => exact absurd rfl h.n6
                | 7, _, _ => exact (show n6 ≤ 1048576 by omega)
                | 8, _, _ => exact (show n ≤ 1048576 by omega)
                | 9, _, _ => exact (show n8 ≤ 1048576 by omega)
                | 10, _, _ => exact (show n9 ≤ 1048576 by omega)
                | 11, _, _ => exact (show n10 ≤ 1048576 by omega)
            clear hprem htwo hgn hwf
            have hR := GF3.begin_ (n := n) (nF := n5) (X := (mkX n n3 n6 n8 n9 n10 d A st dg tr tu qu ma sd sc steps)) (F0 := F0) W
            go_wp2_with fail
            refine (show Calls Try.prog 13 #[.slice a0 n c0] _ (fun e w' => ∃ a', e = .returned (.slice a' n n) ∧ ∃ tag', GF3 W w' n n5 (mkX n n3 n6 n8 n9 n10 d A st dg tr tu qu ma sd sc steps) F0 tag' (updF (fun _ => none) 0 a')) from GF3.c0 hR hG0 c0).mono ?_
            clear hR
            rintro e wx ⟨b0, rfl, tgx, hR⟩
            go_wp2_with fail
            refine (show Calls Try.prog 14 #[.slice a1 n c1] _ (fun e w' => ∃ a', e = .returned (.slice a' n n) ∧ ∃ tag', GF3 W w' n n5 (mkX n n3 n6 n8 n9 n10 d A st dg tr tu qu ma sd sc steps) F0 tag' (updF (updF (fun _ => none) 0 b0) 1 a')) from GF3.cT hR hG0 c1 1 14 tab1 (by omega) (by decide)).mono ?_
            clear hR
            rintro e wx ⟨b1, rfl, tgx, hR⟩
            go_wp2_with fail
            refine (show Calls Try.prog 15 #[.slice a2 n c2] _ (fun e w' => ∃ a', e = .returned (.slice a' n n) ∧ ∃ tag', GF3 W w' n n5 (mkX n n3 n6 n8 n9 n10 d A st dg tr tu qu ma sd sc steps) F0 tag' (updF (updF (updF (fun _ => none) 0 b0) 1 b1) 2 a')) from GF3.cT hR hG0 c2 2 15 tab2 (by omega) (by decide)).mono ?_
            clear hR
            rintro e wx ⟨b2, rfl, tgx, hR⟩
            go_wp2_with fail
            refine (show Calls Try.prog 15 #[.slice a3 n3 c3] _ (fun e w' => ∃ a', e = .returned (.slice a' n3 n3) ∧ ∃ tag', GF3 W w' n n5 (mkX n n3 n6 n8 n9 n10 d A st dg tr tu qu ma sd sc steps) F0 tag' (updF (updF (updF (updF (fun _ => none) 0 b0) 1 b1) 2 b2) 3 a')) from GF3.cT hR hG0 c3 3 15 tab3 (by omega) (by decide)).mono ?_
            clear hR
            rintro e wx ⟨b3, rfl, tgx, hR⟩
            go_wp2_with fail
            refine (show Calls Try.prog 16 #[.slice a5 n5 c5] _ (fun e w' => ∃ a', e = .returned (.slice a' n5 n5) ∧ ∃ tag', GF3 W w' n n5 (mkX n n3 n6 n8 n9 n10 d A st dg tr tu qu ma sd sc steps) F0 tag' (updF (updF (updF (updF (updF (fun _ => none) 0 b0) 1 b1) 2 b2) 3 b3) 6 a')) from GF3.c6 hR hG0 c5).mono ?_
            clear hR
            rintro e wx ⟨b6, rfl, tgx, hR⟩
            go_wp2_with fail
            refine (show Calls Try.prog 15 #[.slice a6 n6 c6] _ (fun e w' => ∃ a', e = .returned (.slice a' n6 n6) ∧ ∃ tag', GF3 W w' n n5 (mkX n n3 n6 n8 n9 n10 d A st dg tr tu qu ma sd sc steps) F0 tag' (updF (updF (updF (updF (updF (updF (fun _ => none) 0 b0) 1 b1) 2 b2) 3 b3) 6 b6) 7 a')) from GF3.cT hR hG0 c6 7 15 tab7 (by omega) (by decide)).mono ?_
            clear hR
            rintro e wx ⟨b7, rfl, tgx, hR⟩
            go_wp2_with fail
            refine (show Calls Try.prog 17 #[.slice a7 n c7] _ (fun e w' => ∃ a', e = .returned (.slice a' n n) ∧ ∃ tag', GF3 W w' n n5 (mkX n n3 n6 n8 n9 n10 d A st dg tr tu qu ma sd sc steps) F0 tag' (updF (updF (updF (updF (updF (updF (updF (fun _ => none) 0 b0) 1 b1) 2 b2) 3 b3) 6 b6) 7 b7) 8 a')) from GF3.cT hR hG0 c7 8 17 tab8 (by omega) (by decide)).mono ?_
            clear hR
            rintro e wx ⟨b8, rfl, tgx, hR⟩
            go_wp2_with fail
            refine (show Calls Try.prog 15 #[.slice a8 n8 c8] _ (fun e w' => ∃ a', e = .returned (.slice a' n8 n8) ∧ ∃ tag', GF3 W w' n n5 (mkX n n3 n6 n8 n9 n10 d A st dg tr tu qu ma sd sc steps) F0 tag' (updF (updF (updF (updF (updF (updF (updF (updF (fun _ => none) 0 b0) 1 b1) 2 b2) 3 b3) 6 b6) 7 b7) 8 b8) 9 a')) from GF3.cT hR hG0 c8 9 15 tab9 (by omega) (by decide)).mono ?_
            clear hR
            rintro e wx ⟨b9, rfl, tgx, hR⟩
            go_wp2_with fail
            refine (show Calls Try.prog 14 #[.slice a9 n9 c9] _ (fun e w' => ∃ a', e = .returned (.slice a' n9 n9) ∧ ∃ tag', GF3 W w' n n5 (mkX n n3 n6 n8 n9 n10 d A st dg tr tu qu ma sd sc steps) F0 tag' (updF (updF (updF (updF (updF (updF (updF (updF (updF (fun _ => none) 0 b0) 1 b1) 2 b2) 3 b3) 6 b6) 7 b7) 8 b8) 9 b9) 10 a')) from GF3.cT hR hG0 c9 10 14 tab10 (by omega) (by decide)).mono ?_
            clear hR
            rintro e wx ⟨b10, rfl, tgx, hR⟩
            go_wp2_with fail
            refine (show Calls Try.prog 15 #[.slice a10 n10 c10] _ (fun e w' => ∃ a', e = .returned (.slice a' n10 n10) ∧ ∃ tag', GF3 W w' n n5 (mkX n n3 n6 n8 n9 n10 d A st dg tr tu qu ma sd sc steps) F0 tag' (updF (updF (updF (updF (updF (updF (updF (updF (updF (updF (fun _ => none) 0 b0) 1 b1) 2 b2) 3 b3) 6 b6) 7 b7) 8 b8) 9 b9) 10 b10) 11 a')) from GF3.cT hR hG0 c10 11 15 tab11 (by omega) (by decide)).mono ?_
            clear hR
            rintro e wx ⟨b11, rfl, tgx, hR⟩
            have hG : Src3 wx n n5 (mkX n n3 n6 n8 n9 n10 d A st dg tr tu qu ma sd sc steps) F0 (bX b0 b1 b2 b3 b6 b7 b8 b9 b10 b11) := hR.src (b' := (bX b0 b1 b2 b3 b6 b7 b8 b9 b10 b11)) (fun j hj => by
              have hlt := isFd_lt hj
              match j, hlt, hj with
              | 0, _, _ => rfl
              | 1, _, _ => rfl
              | 2, _, _ => rfl
              | 3, _, _ => rfl
              | 4, _, h => cases h
              | 5, _, h => cases h
              | 6, _, _ => rfl
              | 7, _, _ => rfl
              | 8, _, _ => rfl
              | 9, _, _ => rfl
              | 10, _, _ => rfl
              | 11, _, _ => rfl) hG0
            have hxW : Ext (fun _ => False) W wx := hR.ext
            rename World => wa
            clear hR hG0 r0 r0n r1 r2 r3 r5 r6 r7 r8 r9 r10
            have hdv := HD.out vn HTwo.out.hv
            go_wp2_with fail
            refine (twoFree_any (fun _ => True) b0 b1 n n n vn d (nbF A) st wa (by omega) HTwo.out.hv (by omega) (HGn.out.lt vn HTwo.out.hv) hG.adj (hG.tab 1 tab1 (by omega))).mono ?_
            rintro e w' ⟨zu, zw, cc, rfl, hTF, hw⟩
            subst w'
            obtain ⟨rfl, rfl⟩ : zu = (u : Int) ∧ zw = (w2 : Int) := two_of hTF HTwo.out
            clear hTF
            have hR := GF3.begin_ (n := n) (nF := n5) (X := (mkX n n3 n6 n8 n9 n10 d A st dg tr tu qu ma sd sc steps)) (F0 := F0) wa
            go_wp2_with fail
            refine (show Calls Try.prog 13 #[.slice b0 n n] _ (fun e w' => ∃ a', e = .returned (.slice a' n n) ∧ ∃ tag', GF3 wa w' n n5 (mkX n n3 n6 n8 n9 n10 d A st dg tr tu qu ma sd sc steps) F0 tag' (updF (fun _ => none) 0 a')) from GF3.c0 hR hG n).mono ?_
            clear hR
            rintro e wx ⟨g0, rfl, tgx, hR⟩
            go_wp2_with fail
            refine (show Calls Try.prog 14 #[.slice b1 n n] _ (fun e w' => ∃ a', e = .returned (.slice a' n n) ∧ ∃ tag', GF3 wa w' n n5 (mkX n n3 n6 n8 n9 n10 d A st dg tr tu qu ma sd sc steps) F0 tag' (updF (updF (fun _ => none) 0 g0) 1 a')) from GF3.cT hR hG n 1 14 tab1 (by omega) (by decide)).mono ?_
            clear hR
            rintro e wx ⟨g1, rfl, tgx, hR⟩
            go_wp2_with fail
            refine (show Calls Try.prog 15 #[.slice b2 n n] _ (fun e w' => ∃ a', e = .returned (.slice a' n n) ∧ ∃ tag', GF3 wa w' n n5 (mkX n n3 n6 n8 n9 n10 d A st dg tr tu qu ma sd sc steps) F0 tag' (updF (updF (updF (fun _ => none) 0 g0) 1 g1) 2 a')) from GF3.cT hR hG n 2 15 tab2 (by omega) (by decide)).mono ?_
            clear hR
            rintro e wx ⟨g2, rfl, tgx, hR⟩
            go_wp2_with fail
            refine (show Calls Try.prog 15 #[.slice b3 n3 n3] _ (fun e w' => ∃ a', e = .returned (.slice a' n3 n3) ∧ ∃ tag', GF3 wa w' n n5 (mkX n n3 n6 n8 n9 n10 d A st dg tr tu qu ma sd sc steps) F0 tag' (updF (updF (updF (updF (fun _ => none) 0 g0) 1 g1) 2 g2) 3 a')) from GF3.cT hR hG n3 3 15 tab3 (by omega) (by decide)).mono ?_
            clear hR
            rintro e wx ⟨g3, rfl, tgx, hR⟩
            go_wp2_with fail
            refine (show Calls Try.prog 16 #[.slice b6 n5 n5] _ (fun e w' => ∃ a', e = .returned (.slice a' n5 n5) ∧ ∃ tag', GF3 wa w' n n5 (mkX n n3 n6 n8 n9 n10 d A st dg tr tu qu ma sd sc steps) F0 tag' (updF (updF (updF (updF (updF (fun _ => none) 0 g0) 1 g1) 2 g2) 3 g3) 6 a')) from GF3.c6 hR hG n5).mono ?_
            clear hR
            rintro e wx ⟨g6, rfl, tgx, hR⟩
            go_wp2_with fail
            refine (show Calls Try.prog 15 #[.slice b7 n6 n6] _ (fun e w' => ∃ a', e = .returned (.slice a' n6 n6) ∧ ∃ tag', GF3 wa w' n n5 (mkX n n3 n6 n8 n9 n10 d A st dg tr tu qu ma sd sc steps) F0 tag' (updF (updF (updF (updF (updF (updF (fun _ => none) 0 g0) 1 g1) 2 g2) 3 g3) 6 g6) 7 a')) from GF3.cT hR hG n6 7 15 tab7 (by omega) (by decide)).mono ?_
            clear hR
            rintro e wx ⟨g7, rfl, tgx, hR⟩
            go_wp2_with fail
            refine (show Calls Try.prog 17 #[.slice b8 n n] _ (fun e w' => ∃ a', e = .returned (.slice a' n n) ∧ ∃ tag', GF3 wa w' n n5 (mkX n n3 n6 n8 n9 n10 d A st dg tr tu qu ma sd sc steps) F0 tag' (updF (updF (updF (updF (updF (updF (updF (fun _ => none) 0 g0) 1 g1) 2 g2) 3 g3) 6 g6) 7 g7) 8 a')) from GF3.cT hR hG n 8 17 tab8 (by omega) (by decide)).mono ?_
            clear hR
            rintro e wx ⟨g8, rfl, tgx, hR⟩
            go_wp2_with fail
            refine (show Calls Try.prog 15 #[.slice b9 n8 n8] _ (fun e w' => ∃ a', e = .returned (.slice a' n8 n8) ∧ ∃ tag', GF3 wa w' n n5 (mkX n n3 n6 n8 n9 n10 d A st dg tr tu qu ma sd sc steps) F0 tag' (updF (updF (updF (updF (updF (updF (updF (updF (fun _ => none) 0 g0) 1 g1) 2 g2) 3 g3) 6 g6) 7 g7) 8 g8) 9 a')) from GF3.cT hR hG n8 9 15 tab9 (by omega) (by decide)).mono ?_
            clear hR
            rintro e wx ⟨g9, rfl, tgx, hR⟩
            go_wp2_with fail
            refine (show Calls Try.prog 14 #[.slice b10 n9 n9] _ (fun e w' => ∃ a', e = .returned (.slice a' n9 n9) ∧ ∃ tag', GF3 wa w' n n5 (mkX n n3 n6 n8 n9 n10 d A st dg tr tu qu ma sd sc steps) F0 tag' (updF (updF (updF (updF (updF (updF (updF (updF (updF (fun _ => none) 0 g0) 1 g1) 2 g2) 3 g3) 6 g6) 7 g7) 8 g8) 9 g9) 10 a')) from GF3.cT hR hG n9 10 14 tab10 (by omega) (by decide)).mono ?_
            clear hR
            rintro e wx ⟨g10, rfl, tgx, hR⟩
            go_wp2_with fail
            refine (show Calls Try.prog 15 #[.slice b11 n10 n10] _ (fun e w' => ∃ a', e = .returned (.slice a' n10 n10) ∧ ∃ tag', GF3 wa w' n n5 (mkX n n3 n6 n8 n9 n10 d A st dg tr tu qu ma sd sc steps) F0 tag' (updF (updF (updF (updF (updF (updF (updF (updF (updF (updF (fun _ => none) 0 g0) 1 g1) 2 g2) 3 g3) 6 g6) 7 g7) 8 g8) 9 g9) 10 g10) 11 a')) from GF3.cT hR hG n10 11 15 tab11 (by omega) (by decide)).mono ?_
            clear hR
            rintro e wx ⟨g11, rfl, tgx, hR⟩
            have hc19 := hR.c19 (b' := (bX g0 g1 g2 g3 g6 g7 g8 g9 g10 g11)) (fun j hj => by
              have hlt := isFd_lt hj
              match j, hlt, hj with
              | 0, _, _ => rfl
              | 1, _, _ => rfl
              | 2, _, _ => rfl
              | 3, _, _ => rfl
              | 4, _, h => cases h
              | 5, _, h => cases h
              | 6, _, _ => rfl
              | 7, _, _ => rfl
              | 8, _, _ => rfl
              | 9, _, _ => rfl
              | 10, _, _ => rfl
              | 11, _, _ => rfl) hG HGn.out HTwo.out rfl rfl rfl (show n3 ≤ 131072 by omega) (show n6 ≤ 131072 by omega) (show n8 ≤ 131072 by omega) (show n10 ≤ 131072 by omega)
            clear hR
            go_wp2_with fail
            refine (show Calls Try.prog 19 #[.slice g0 n n, .slice g1 n n, .slice g2 n n, .slice g3 n3 n3, .int .i64 steps, .int .i64 0, .slice g6 n5 n5, .slice g7 n6 n6, .slice g8 n n, .slice g9 n8 n8, .slice g10 n9 n9, .slice g11 n10 n10, .int .i64 (vn : Int)] _ _ from hc19).mono ?_
            rintro e wc ⟨tv, rfl, tgo, x0, x', y, nm, mk, aO, cO, bs, F, hO⟩
            clear hc19
            have hP := hO.p3 HGn.out HTwo.out
            have hE := hO.e3 hP hG
            have hxc := hO.ext
            obtain ⟨l7, hl7⟩ : ∃ l, x'.L 7 = l := ⟨_, rfl⟩
            obtain ⟨oA, hoA⟩ : ∃ r, x'.a 0 = r := ⟨_, rfl⟩
            have t0 : tv 0 = .slice oA (n + 1) (x'.C 0) := by rw [hO.t0, hP.l0, hoA]
            obtain ⟨oS, hoS⟩ : ∃ r, x'.a 1 = r := ⟨_, rfl⟩
            have t1 : tv 1 = .slice oS (n + 1) (x'.C 1) := by rw [hO.t1, hP.l1, hoS]
            obtain ⟨oD, hoD⟩ : ∃ r, x'.a 2 = r := ⟨_, rfl⟩
            have t2 : tv 2 = .slice oD (n + 1) (x'.C 2) := by rw [hO.t2, hP.l2, hoD]
            obtain ⟨oT, hoT⟩ : ∃ r, x'.a 3 = r := ⟨_, rfl⟩
            have t3 : tv 3 = .slice oT (n3 + 4) (x'.C 3) := by rw [hO.t3, hP.l3, hoT]; rfl
            obtain ⟨oU, hoU⟩ : ∃ r, x'.a 7 = r := ⟨_, rfl⟩
            have t6 : tv 6 = .slice oU l7 (x'.C 7) := by rw [hO.t6, hl7, hoU]
            obtain ⟨oQ, hoQ⟩ : ∃ r, x'.a 8 = r := ⟨_, rfl⟩
            have t7 : tv 7 = .slice oQ (n + 1) (x'.C 8) := by rw [hO.t7, hP.l8, hoQ]
            obtain ⟨oM, hoM⟩ : ∃ r, x'.a 9 = r := ⟨_, rfl⟩
            have t8 : tv 8 = .slice oM (n8 + 1) (x'.C 9) := by rw [hO.t8, hP.l9, hoM]; rfl
            obtain ⟨oI, hoI⟩ : ∃ r, x'.a 10 = r := ⟨_, rfl⟩
            have t9 : tv 9 = .slice oI (n9 + 1) (x'.C 10) := by rw [hO.t9, hP.l10, hoI]; rfl
            obtain ⟨oC, hoC⟩ : ∃ r, x'.a 11 = r := ⟨_, rfl⟩
            have t10 : tv 10 = .slice oC (n10 + 1) (x'.C 11) := by rw [hO.t10, hP.l11, hoC]; rfl
            have t4 : tv 4 = .int .i64 (wrap64 (steps + d vn + 2 * d u + 2 * d w2)) := by rw [hO.t4, hP.s4]; rfl
            have t5 : tv 5 = .slice aO (n5 + 1) cO := by rw [hO.t5, hO.R.l6, hO.l6]
            have sA : RdAdj (fun _ => True) wc b0 n d (fun p i => (nbF A p i : Int)) := hE.src.adj
            have sS : Rd (fun _ => True) wc b1 n (fun j => .int .i8 (st j)) := hE.src.tab 1 tab1 (by omega)
            have sD : Rd (fun _ => True) wc b2 n (fun j => .int .i64 (dg j)) := hE.src.tab 2 tab2 (by omega)
            have sT : Rd (fun _ => True) wc b3 n3 (fun j => .int .i64 (tr j)) := hE.src.tab 3 tab3 (by omega)
            have sU : Rd (fun _ => True) wc b7 n6 (fun j => .int .i64 (tu j)) := hE.src.tab 7 tab7 (by omega)
            have sQ : Rd (fun _ => True) wc b8 n (fun j => .bool (qu j)) := hE.src.tab 8 tab8 (by omega)
            have sM : Rd (fun _ => True) wc b9 n8 (fun j => .int .i64 (ma j)) := hE.src.tab 9 tab9 (by omega)
            have sI : Rd (fun _ => True) wc b10 n9 (fun j => .int .i8 (sd j)) := hE.src.tab 10 tab10 (by omega)
            have sC : Rd (fun _ => True) wc b11 n10 (fun j => .int .i64 (sc j)) := hE.src.tab 11 tab11 (by omega)
            have sF : Rd4 (fun _ => True) wc b6 n5 F0 := hE.src.fo
            have rA : RdAdj (fun _ => True) wc oA (n + 1) x'.d (fun p i => (x'.N p i : Int)) := by rw [← hoA]; exact hE.adj
            have rS : Rd (fun _ => True) wc oS (n + 1) (fun j => .int .i8 (x'.st j)) := by have h := hE.tab 1 tab1 (by omega); rw [hoS, hP.l1] at h; exact h
            have rD : Rd (fun _ => True) wc oD (n + 1) (fun j => .int .i64 (x'.dg j)) := by have h := hE.tab 2 tab2 (by omega); rw [hoD, hP.l2] at h; exact h
            have rT : Rd (fun _ => True) wc oT (n3 + 4) (fun j => .int .i64 (x'.tr j)) := by have h := hE.tab 3 tab3 (by omega); rw [hoT, hP.l3] at h; exact h
            have rU : Rd (fun _ => True) wc oU l7 (fun j => .int .i64 (x'.tu j)) := by rw [← hoU, ← hl7]; exact hE.tab 7 tab7 (by omega)
            have rQ : Rd (fun _ => True) wc oQ (n + 1) (fun j => .bool (x'.qu j)) := by have h := hE.tab 8 tab8 (by omega); rw [hoQ, hP.l8] at h; exact h
            have rM : Rd (fun _ => True) wc oM (n8 + 1) (fun j => .int .i64 (x'.ma j)) := by have h := hE.tab 9 tab9 (by omega); rw [hoM, hP.l9] at h; exact h
            have rI : Rd (fun _ => True) wc oI (n9 + 1) (fun j => .int .i8 (x'.sd j)) := by have h := hE.tab 10 tab10 (by omega); rw [hoI, hP.l10] at h; exact h
            have rC : Rd (fun _ => True) wc oC (n10 + 1) (fun j => .int .i64 (x'.sc j)) := by have h := hE.tab 11 tab11 (by omega); rw [hoC, hP.l11] at h; exact h
            have rF : Rd4 (fun _ => True) wc aO (n5 + 1) F := hE.fo
            have HP : Hid (P3 n n5 (mkX n n3 n6 n8 n9 n10 d A st dg tr tu qu ma sd sc steps) F0 vn u w2 iu iw x' nm mk F) := hP
            have hvn := HTwo.out.hv
            have hun := hP.un
            have hwn := hP.wn
            have hnmn := hP.nmn
            have hxWc : Ext (fun _ => False) W wc := hxW.trans hxc (fun _ _ h => h)
            have Hl7 : Hid (x'.L 7 = l7) := hl7
            clear hO hE hP hG hxc hoA hoS hoD hoT hoU hoQ hoM hoI hoC hl7 hxW
            obtain ⟨gA, pA, rfl, cA⟩ := sA.base (by omega)
            obtain ⟨gS, pS, rfl, cS⟩ := sS.base (by omega)
            obtain ⟨gD, pD, rfl, cD⟩ := sD.base (by omega)
            obtain ⟨gQ, pQ, rfl, cQ⟩ := sQ.base (by omega)
            obtain ⟨kA, qA, rfl, eA⟩ := rA.base (by omega)
            obtain ⟨kS, qS, rfl, eS⟩ := rS.base (by omega)
            obtain ⟨kD, qD, rfl, eD⟩ := rD.base (by omega)
            obtain ⟨kQ, qQ, rfl, eQ⟩ := rQ.base (by omega)
            have CA : Hid (∀ p, p < n → ∃ ra rc, wc.cell? ⟨gA, pA + p, none⟩ = some (.slice ra (d p) rc) ∧ Rd (fun _ => True) wc ra (d p) (fun j => .int .i64 (nbF A p j : Int))) := cA
            have CS : Hid (∀ j, j < n → wc.cell? ⟨gS, pS + j, none⟩ = some (.int .i8 (st j))) := cS
            have CD : Hid (∀ j, j < n → wc.cell? ⟨gD, pD + j, none⟩ = some (.int .i64 (dg j))) := cD
            have CQ : Hid (∀ j, j < n → wc.cell? ⟨gQ, pQ + j, none⟩ = some (.bool (qu j))) := cQ
            have EA : Hid (∀ p, p < n + 1 → ∃ ra rc, wc.cell? ⟨kA, qA + p, none⟩ = some (.slice ra (x'.d p) rc) ∧ Rd (fun _ => True) wc ra (x'.d p) (fun j => .int .i64 (x'.N p j : Int))) := eA
            have ES : Hid (∀ j, j < n + 1 → wc.cell? ⟨kS, qS + j, none⟩ = some (.int .i8 (x'.st j))) := eS
            have ED : Hid (∀ j, j < n + 1 → wc.cell? ⟨kD, qD + j, none⟩ = some (.int .i64 (x'.dg j))) := eD
            have EQ : Hid (∀ j, j < n + 1 → wc.cell? ⟨kQ, qQ + j, none⟩ = some (.bool (x'.qu j))) := eQ
            clear cA cS cD cQ eA eS eD eQ sA sS sD sQ rA rS rD rQ
            unfold tup11
            simp only [t0, t1, t2, t3, t4, t5, t6, t7, t8, t9, t10]
            clear t0 t1 t2 t3 t4 t5 t6 t7 t8 t9 t10
            go_upto_region 22 with fail
            refine next _ _ _ _ _ _ _ _ _ _ _ _ _ _ _ _ _ _ _ _ _ _ _ _ _ _ _ _ _ _ _ _ _ _ _ _ _ _ _ _ _ _ _ _ _ _ _ _ _ _ _ _ _ _ _ _ _ _ _ _ _ _ _ _ _ _ _ _ _ _ _ _ _ _ _ _ _ _ _ _ _ _ _ _ _ _ _ _ _ _ _ _ _ _ _ _ _ _ _ _ _ _ _ _ _ _ _ _ _ _ _ _ _ _ _ _ _ _ _ _ _ _ _ _ _ _ _ _ _ _ _ _ _ _ _ _ _ _ _ _ _ _ _ _ _ _ _ _ _ _ _ _ _ _ _ _ _ _ _ _ _ _ _ _ _ _ _ _ _ _ _ _ _ _ _ _ _ _ _ _ _ _ _ _ _ _ _ _ _ _ _ _ _ _ _ _ _ _ _ _ _ _ _ _ _ _ _ _ _ _ _ _ _ _ _ _ _ _ _ _ _ _ _ _ _ _ _ _ _ _ _ _ _ _ _ _ _ _ _ _ _ _ ⟨hn, ln3, ln5, ln6, ln8, ln9, ln10, HD, HTwo, HGn, sT, sU, sM, sI, sC, sF, rT, rU, rM, rI, rC, rF, HP, hvn, hun, hwn, hnmn, hxWc, Hl7, CA, CS, CD, CQ, EA, ES, ED, EQ⟩  _ _ _ rfl rfl ?_ 
            all_goals assumption
        · have e7 : ((n7 : Int) != (n : Int)) = true := by simp; omega
          go_wp2_with fail
          go_ret
          exact ⟨rfl, Ext.refl _ _⟩
      · clear hab
        go_wp2_with fail
        go_ret
        exact ⟨rfl, Ext.refl _ _⟩
    · clear h1 h2 h3 h5 h6 h7 h8 h9 h10
      by_cases ln1 : n1 ≤ 1048576
      · have qn1 : decide ((1048576 : Int) < (n1 : Int)) = false := by simp; omega
        by_cases ln2 : n2 ≤ 131072
        · have qn2 : decide ((131072 : Int) < (n2 : Int)) = false := by simp; omega
          by_cases ln3 : n3 ≤ 131072
          · have qn3 : decide ((131072 : Int) < (n3 : Int)) = false := by simp; omega
            by_cases ln5 : n5 ≤ 32768
            · have qn5 : decide ((32768 : Int) < (n5 : Int)) = false := by simp; omega
              by_cases ln6 : n6 ≤ 131072
              · have qn6 : decide ((131072 : Int) < (n6 : Int)) = false := by simp; omega
                by_cases ln7 : n7 ≤ 1048576
                · have qn7 : decide ((1048576 : Int) < (n7 : Int)) = false := by simp; omega
                  by_cases ln8 : n8 ≤ 131072
                  · have qn8 : decide ((131072 : Int) < (n8 : Int)) = false := by simp; omega
                    by_cases ln9 : n9 ≤ 1048576
                    · have qn9 : decide ((1048576 : Int) < (n9 : Int)) = false := by simp; omega
                      by_cases ln10 : n10 ≤ 131072
                      · have qn10 : decide ((131072 : Int) < (n10 : Int)) = false := by simp; omega
                        omega
                      · have qn10 : decide ((131072 : Int) < (n10 : Int)) = true := by simp; omega
                        go_wp2_with fail
                        go_ret
                        exact ⟨rfl, Ext.refl _ _⟩
                    · have qn9 : decide ((1048576 : Int) < (n9 : Int)) = true := by simp; omega
                      go_wp2_with fail
                      go_ret
                      exact ⟨rfl, Ext.refl _ _⟩
                  · have qn8 : decide ((131072 : Int) < (n8 : Int)) = true := by simp; omega
                    go_wp2_with fail
                    go_ret
                    exact ⟨rfl, Ext.refl _ _⟩
                · have qn7 : decide ((1048576 : Int) < (n7 : Int)) = true := by simp; omega
                  go_wp2_with fail
                  go_ret
                  exact ⟨rfl, Ext.refl _ _⟩
              · have qn6 : decide ((131072 : Int) < (n6 : Int)) = true := by simp; omega
                go_wp2_with fail
                go_ret
                exact ⟨rfl, Ext.refl _ _⟩
            · have qn5 : decide ((32768 : Int) < (n5 : Int)) = true := by simp; omega
              go_wp2_with fail
              go_ret
              exact ⟨rfl, Ext.refl _ _⟩
          · have qn3 : decide ((131072 : Int) < (n3 : Int)) = true := by simp; omega
            go_wp2_with fail
            go_ret
            exact ⟨rfl, Ext.refl _ _⟩
        · have qn2 : decide ((131072 : Int) < (n2 : Int)) = true := by simp; omega
          go_wp2_with fail
          go_ret
          exact ⟨rfl, Ext.refl _ _⟩
      · have qn1 : decide ((1048576 : Int) < (n1 : Int)) = true := by simp; omega
        go_wp2_with fail
        go_ret
        exact ⟨rfl, Ext.refl _ _⟩
end Go.Proofs.Qxb6601557a
