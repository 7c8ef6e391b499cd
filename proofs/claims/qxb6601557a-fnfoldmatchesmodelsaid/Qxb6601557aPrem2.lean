/-
  zzFoldGraphPremise. By an AI agent.
-/
import Derived.Test.Qxb6601557aPrem
namespace Go.Proofs.Qxb6601557a
set_option linter.unusedVariables false
open Go.RowKit

theorem RdAdj.congrF {S : Nat → Prop} {w : World} {a : Option Addr} {n : Nat} {d : Nat → Nat} {A A' : Nat → Nat → Int} (h : RdAdj S w a n d A) (hA : ∀ p, p < n → ∀ i, i < d p → A p i = A' p i) : RdAdj S w a n d A' := by
  intro p hp
  obtain ⟨b, off, ra, rc, ha, hS, hc, hm, hr⟩ := h p hp
  exact ⟨b, off, ra, rc, ha, hS, hc, hm, hr.congr (fun j hj => by rw [hA p hp j hj])⟩

def nbF (A : Nat → Nat → Int) (p i : Nat) : Nat := (A p i).toNat

theorem WF.nbF {n : Nat} {d : Nat → Nat} {A : Nat → Nat → Int} (h : WF n d A) {p i : Nat} (hp : p < n) (hi : i < d p) : A p i = (nbF A p i : Int) := by
  have := (h.row p hp).1 i hi
  unfold Go.Proofs.Qxb6601557a.nbF; omega

theorem WF.gn {n : Nat} {d : Nat → Nat} {A : Nat → Nat → Int} (h : WF n d A) (hd : ∀ p, p < n → d p ≤ 131072) : GN n d (Go.Proofs.Qxb6601557a.nbF A) := by
  have hlt : ∀ p, p < n → ∀ i, i < d p → Go.Proofs.Qxb6601557a.nbF A p i < n := fun p hp i hi => by
    have := (h.row p hp).1 i hi
    have := h.nbF hp hi
    omega
  refine ⟨hlt, fun p hp i hi => ?_, fun p hp i j hij hj => ?_, fun p hp i hi => ?_, hd⟩
  · have := (h.row p hp).1 i hi
    have := h.nbF hp hi
    omega
  · have := (h.row p hp).2 i j hij hj
    have := h.nbF hp (show i < d p by omega)
    have := h.nbF hp hj
    omega
  · have h1 := h.sym p hp i hi
    obtain ⟨j, hj, e⟩ := memB_iff.1 h1
    have e2 : (A p i).toNat = Go.Proofs.Qxb6601557a.nbF A p i := rfl
    rw [e2] at hj e
    exact ⟨j, hj, by have := h.nbF (hlt p hp i hi) hj; omega⟩

structure PremF (n ns nd : Nat) (d : Nat → Nat) (A : Nat → Nat → Int) (st : Nat → Int) (v : Int) : Prop where
  s : ns = n
  g : nd = n
  wf : WF n d A
  two : ∃ vn u w iu iw : Nat, v = (vn : Int) ∧ Two n d (nbF A) st vn u w iu iw

structure PremFRes (n ns nd : Nat) (d : Nat → Nat) (A : Nat → Nat → Int) (st : Nat → Int) (v : Int) (w : World) (e : Ending) (w' : World) : Prop where
  ret : ∃ r, e = .returned (.bool r) ∧ (r = true → PremF n ns nd d A st v)
  same : w' = w

theorem PremFRes.no {n ns nd : Nat} {d : Nat → Nat} {A : Nat → Nat → Int} {st : Nat → Int} {v : Int} {w : World} : PremFRes n ns nd d A st v w (.returned (.bool false)) w := ⟨⟨false, rfl, fun h => by cases h⟩, rfl⟩

set_option maxHeartbeats 4000000 in
set_option maxRecDepth 100000 in
theorem premF_any (S : Nat → Prop) (a0 a1 a2 : Option Addr) (n c0 ns c1 nd c2 : Nat) (d : Nat → Nat) (A : Nat → Nat → Int) (st dg : Nat → Int) (v : Int) (w : World) (hn : n ≤ 131072) (hd : ∀ p, p < n → d p ≤ 131072)
    (r0 : RdAdj S w a0 n d A) (r1 : Rd S w a1 ns (fun j => .int .i8 (st j))) (hs : ns ≤ 1048576) (hg : nd ≤ 1048576) :
    Calls Try.prog 12 #[.slice a0 n c0, .slice a1 ns c1, .slice a2 nd c2, .int .i64 v] w (PremFRes n ns nd d A st v w) := by
  have HD : Hid (∀ p, p < n → d p ≤ 131072) := hd
  clear hd
  by_cases h1 : ns = n
  · subst ns
    by_cases h2 : nd = n
    · subst nd
      have e1 : ((n : Int) != (n : Int)) = false := by simp
      go_enter Try.func12, Try.ntmps12
      go_wp2_with fail
      refine (wf_any S a0 n c0 d A w (by omega) r0).mono ?_
      rintro e w' ⟨⟨r, rfl, hr⟩, hw⟩
      subst w'
      cases r with
      | false =>
        go_wp2_with fail
        go_ret
        exact PremFRes.no
      | true =>
        have hwf := hr.1 rfl
        have hgn := hwf.gn HD.out
        clear hr
        by_cases hv0 : v < 0
        · have e2 : decide (v < 0) = true := by simpa using hv0
          go_wp2_with fail
          go_ret
          exact PremFRes.no
        · obtain ⟨vn, rfl⟩ : ∃ vn : Nat, v = (vn : Int) := ⟨v.toNat, by omega⟩
          by_cases hvn : vn < n
          · obtain ⟨b1, o1, rfl, _, hc1⟩ := r1 vn hvn
            dsimp only at hc1
            have g1 : (vn : Int) < (n : Int) := by omega
            have e3 : decide ((n : Int) ≤ (vn : Int)) = false := by simp; omega
            by_cases hz : st vn = 0
            · rw [hz] at hc1
              have Hz : Hid (st vn = 0) := hz
              clear hz
              have r0n := r0.congrF (A' := fun p i => (nbF A p i : Int)) (fun p hp i hi => hwf.nbF hp hi)
              have hdv := HD.out vn hvn
              go_wp2_with fail
              refine (twoFree_any S a0 _ n c0 c1 vn d (nbF A) st w (by omega) hvn (by omega) (hgn.lt vn hvn) r0n r1).mono ?_
              rintro e w' ⟨zu, zw, c, rfl, hT, hw⟩
              subst w'
              by_cases hc : c = 2
              · subst hc
                obtain ⟨iu, iw, t1, t2, t3, t4, t5, t6, t7⟩ := hT.two (by omega)
                have hun := hgn.lt vn hvn iu (by omega)
                have hwn := hgn.lt vn hvn iw (by omega)
                subst t3 t4
                have Ht7 := t7 rfl
                have HTw : Hid (∀ i, i < d (nbF A vn iu) → nbF A (nbF A vn iu) i ≠ nbF A vn iw → True) := fun _ _ _ => trivial
                obtain ⟨b0, o0, ra, rc, rfl, _, hcell, hdm, hrow⟩ := r0 (nbF A vn iu) hun
                have hinc := (hwf.row (nbF A vn iu) hun).2
                have Hfin : Hid (memB (d (nbF A vn iu)) (A (nbF A vn iu)) (nbF A vn iw : Int) = false → Two n d (nbF A) st vn (nbF A vn iu) (nbF A vn iw) iu iw) := by
                  intro hm
                  refine ⟨hvn, Hz.out, t1, t2, rfl, rfl, t5, t6, Ht7, fun i hi e => ?_⟩
                  have h3 := memB_false_iff.1 hm i hi
                  rw [hwf.nbF hun hi, e] at h3
                  exact h3 rfl
                have hda := HD.out _ hun
                have g2 : ((nbF A vn iu : Nat) : Int) < (n : Int) := by omega
                clear hT t5 t6 t7 Ht7 HTw
                generalize hU : nbF A vn iu = un at *
                generalize hW : nbF A vn iw = wn at *
                clear hU hW
                go_wp2_with fail
                refine (has_any S ra (d un) rc (A un) (wn : Int) w hdm hrow hinc).mono ?_
                rintro e w' ⟨rfl, hw⟩
                subst w'
                cases hb : memB (d un) (A un) (wn : Int) with
                | true =>
                  go_wp2_with fail
                  go_ret
                  exact PremFRes.no
                | false =>
                  have hfin := Hfin.out hb
                  go_wp2_with fail
                  go_ret
                  exact ⟨⟨true, rfl, fun _ => ⟨rfl, rfl, hwf, vn, un, wn, iu, iw, rfl, hfin⟩⟩, rfl⟩
              · have e4 : ((c : Int) == 2) = false := by rw [beq_eq_false_iff_ne]; omega
                clear hT hc
                go_wp2_with fail
                go_ret
                exact PremFRes.no
            · have e4 : (st vn == 0) = false := by rw [beq_eq_false_iff_ne]; exact hz
              have e5 : (st vn != 0) = true := by simp [bne, e4]
              clear hz
              generalize st vn = sv at *
              go_wp2_with fail
              go_ret
              exact PremFRes.no
          · have e3 : decide ((n : Int) ≤ (vn : Int)) = true := by simp; omega
            go_wp2_with fail
            go_ret
            exact PremFRes.no
    · have e1 : ((n : Int) != (n : Int)) = false := by simp
      have e2 : ((nd : Int) != (n : Int)) = true := by simp; omega
      go_enter Try.func12, Try.ntmps12
      go_wp2_with fail
      go_ret
      exact PremFRes.no
  · have e1 : ((ns : Int) != (n : Int)) = true := by simp; omega
    go_enter Try.func12, Try.ntmps12
    go_wp2_with fail
    go_ret
    exact PremFRes.no
end Go.Proofs.Qxb6601557a
