/-
  FnFoldKeepsGraphAndDegrees: the walk. By an AI agent.
-/
import Derived.Test.Qxb6601557aReg4
import Derived.Test.Qxb6601557aBytes
import Derived.Test.Qxb6601557aAdjBytes
import Derived.Test.Qxb6601557aFrame
import Derived.Deep.CutRange
namespace Go.Proofs.Qxb6601557a
set_option linter.unusedVariables false
open Go.RowKit

theorem GF4.src {W w : World} {n : Nat} {d : Nat → Nat} {N : Nat → Nat → Nat} {st dg : Nat → Int} {tag : Nat → Nat} {b0 b1 b2 : Option Addr} {oq : Option (Option Addr)} (h : GF4 W w n d N st dg tag (some b0) (some b1) (some b2) oq) (hn : n ≤ 131072) (hd : ∀ p, p < n → d p ≤ 131072) : Src4 w n d N st dg b0 b1 b2 := by
  refine ⟨fun p hp => ?_, (h.sta b1 rfl).rd.mono (fun _ _ => trivial), (h.deg b2 rfl).rd.mono (fun _ _ => trivial), hn, hd⟩
  obtain ⟨R, h1, h2⟩ := h.adj b0 rfl
  obtain ⟨b, off, ha, _, hc⟩ := h1.rd p hp
  have := hd p hp
  exact ⟨b, off, R p, d p, ha, trivial, hc, by omega, (h2 p hp).mono (fun _ _ => trivial)⟩

theorem GF4.begin_ (W : World) (n : Nat) (d : Nat → Nat) (N : Nat → Nat → Nat) (st dg : Nat → Int) : GF4 W W n d N st dg (fun _ => 0) none none none none :=
  ⟨Ext.refl _ _, fun a h => (by cases h), fun a h => (by cases h), fun a h => (by cases h), fun a h => (by cases h)⟩

/-- all that the law asks behind ZZFold. -/
structure End4 (w : World) (n : Nat) (st : Nat → Int) (aA aS aD : Option Addr) (d' : Nat → Nat) (N' : Nat → Nat → Nat) (st' dg' : Nat → Int) : Prop where
  adj : RdAdj (fun _ => True) w aA (n + 1) d' (fun p i => (N' p i : Int))
  sta : Rd (fun _ => True) w aS (n + 1) (fun j => .int .i8 (st' j))
  deg : Rd (fun _ => True) w aD (n + 1) (fun j => .int .i64 (dg' j))
  wf : WF (n + 1) d' (fun p i => (N' p i : Int))
  lt : ∀ p, p < n + 1 → ∀ i, i < d' p → N' p i < n + 1
  dle : ∀ p, p < n + 1 → d' p ≤ 200000
  ok : DegOk (n + 1) d' N' st' dg'
  free : cnt (n + 1) (isF st') + 2 = cnt n (isF st)

theorem end4 {W w : World} {n : Nat} {d : Nat → Nat} {N : Nat → Nat → Nat} {st dg : Nat → Int} {v u w2 iu iw : Nat} {tv : Nat → Value} (hn : n ≤ 131072) (hgr : GN n d N) (ht : Two n d N st v u w2 iu iw) (hok : DegOk n d N st dg) (h : P19 W n d N st dg v u w2 tv w) :
    Ext (fun _ => False) W w ∧ ∃ aA aS aD cA cS cD d' N' st' dg', tv 0 = .slice aA (n + 1) cA ∧ tv 1 = .slice aS (n + 1) cS ∧ tv 2 = .slice aD (n + 1) cD ∧ End4 w n st aA aS aD d' N' st' dg' := by
  obtain ⟨tag', x, x', nm, mk, y, bs, ⟨rfl, rfl, rfl, rfl⟩, hm, hx, hR, hM, e0, e1, e2⟩ := h
  have hk := foldK hgr ht hM
  have hT : Taken n x y v u w2 := TK.taken hR.tk
  have hnm : nm ≤ n := by
    have hge : ∀ i, i < nm → i ≤ mk i := by
      intro i
      induction i with
      | zero => intro _; exact Nat.zero_le _
      | succ i ih => intro hi; have := ih (by omega); have := hM.inc i (i + 1) (by omega) hi; omega
    rcases Nat.eq_zero_or_pos nm with h0 | h0
    · omega
    · have := hge (nm - 1) (by omega); have := hk.mlt (nm - 1) (by omega); omega
  have hdle : ∀ p, p < n + 1 → x'.d p ≤ 200000 := by
    intro p hp
    by_cases e : p = n
    · subst e; rw [hR.dn]; omega
    · rw [hR.d p (by omega)]; have := hgr.dle p (by omega); split <;> omega
  have hwf := fold_wf hgr hk hM.inc hR
  have hs := hm.tab 1 tab1
  have hd := hm.tab 2 tab2
  rw [hR.l1] at hs
  rw [hR.l2] at hd
  rw [hR.l0] at e0
  rw [hR.l1] at e1
  rw [hR.l2] at e2
  refine ⟨hx, x'.a 0, x'.a 1, x'.a 2, x'.C 0, x'.C 1, x'.C 2, x'.d, x'.N, x'.st, x'.dg, e0, e1, e2, fun p hp => ?_, hs.rd.mono (fun _ _ => trivial), hd.rd.mono (fun _ _ => trivial), hwf, fun p hp i hi => ?_, hdle, fold_deg hgr hk ht.hv ht.fv ht.fu ht.fw hT hR hok, ?_⟩
  · obtain ⟨g, eg, hc, hr⟩ := hm.row p (by rw [hR.l0]; exact hp)
    have := hdle p hp
    exact ⟨g, 0, x'.R p, x'.rc p, eg, trivial, by rw [Nat.zero_add]; exact hc, by omega, hr.mono (fun _ _ => trivial)⟩
  · have := (hwf.row p hp).1 i hi
    dsimp only at this
    omega
  · rw [hR.st]; exact fold_free hk ht.hv ht.fv ht.fu ht.fw hT.st

set_option maxHeartbeats 4000000 in
set_option maxRecDepth 100000 in
theorem law4 (W : World) (S : Nat → Prop) (a0 a1 a2 : Option Addr) (n c0 ns c1 nd c2 : Nat) (d : Nat → Nat) (A : Nat → Nat → Int) (st dg : Nat → Int) (v : Int)
    (h0 : n ≤ 17592186044416) (h1 : ns ≤ 140737488355328) (h2 : nd ≤ 17592186044416)
    (r0 : RdAdj S W a0 n d A) (r1 : Rd S W a1 ns (fun j => .int .i8 (st j))) (r2 : Rd S W a2 nd (fun j => .int .i64 (dg j))) :
    Calls Try.prog 4 #[.slice a0 n c0, .slice a1 ns c1, .slice a2 nd c2, .int .i64 v] W (Fine W) := by
  go_enter Try.func4, Try.ntmps4
  go_wp2_with fail
  refine (bytes24_any S a0 n c0 d A W (by omega) r0 a1 ns c1 a2 nd c2 v (by omega) (by omega)).mono ?_
  rintro e w' ⟨⟨r, rfl⟩, hw⟩
  subst w'
  cases r with
  | false =>
    go_wp2_with fail
    go_ret
    exact ⟨rfl, Ext.refl _ _⟩
  | true =>
    by_cases hlen : ns ≤ 1048576 ∧ nd ≤ 131072
    · obtain ⟨hl1, hl2⟩ := hlen
      have b1 : decide ((1048576 : Int) < (ns : Int)) = false := by simp; omega
      have b2 : decide ((131072 : Int) < (nd : Int)) = false := by simp; omega
      go_wp2_with fail
      refine (adjBytes_any S a0 n c0 d A W (by omega) r0).mono ?_
      rintro e w' ⟨t, rfl, hab, hw⟩
      subst w'
      have hlo := hab.lo
      have hhi := hab.hi
      by_cases hsum : t + ns + 8 * nd ≤ 1048576
      · obtain ⟨hn, hd⟩ := hab.ok (by omega)
        have HD : Hid (∀ p, p < n → d p ≤ 131072) := hd
        clear hd hab
        go_wp2_with fail
        refine (premF_any S a0 a1 a2 n c0 ns c1 nd c2 d A st dg v W (by omega) HD.out r0 r1 (by omega) (by omega)).mono ?_
        rintro e w' ⟨⟨r, rfl, hprem⟩, hw⟩
        subst w'
        cases r with
        | false =>
          go_wp2_with fail
          go_ret
          exact ⟨rfl, Ext.refl _ _⟩
        | true =>
          obtain ⟨e1, e2, hwf, vn, u, w2, iu, iw, rfl, htwo⟩ := hprem rfl
          subst ns
          subst nd
          have hgn := hwf.gn HD.out
          have r0n := r0.congrF (A' := fun p i => (nbF A p i : Int)) (fun p hp i hi => hwf.nbF hp hi)
          have HTwo : Hid (Two n d (nbF A) st vn u w2 iu iw) := htwo
          have HGn : Hid (GN n d (nbF A)) := hgn
          clear hprem htwo
          go_wp2_with fail
          refine (degOk_any S a0 a1 a2 n c0 c1 c2 d (nbF A) st dg W (by omega) (fun p hp => by have := HD.out p hp; omega) hgn.lt r0n r1 r2).mono ?_
          rintro e w' ⟨⟨r, rfl, hdeg⟩, hw⟩
          subst w'
          cases r with
          | false =>
            go_wp2_with fail
            go_ret
            exact ⟨rfl, Ext.refl _ _⟩
          | true =>
            have HDeg : Hid (DegOk n d (nbF A) st dg) := hdeg.1 rfl
            have hG0 : Src4 W n d (nbF A) st dg a0 a1 a2 := ⟨r0n.mono (fun _ _ => trivial), r1.mono (fun _ _ => trivial), r2.mono (fun _ _ => trivial), by omega, HD.out⟩
            clear hdeg hgn hwf
            go_wp2_with fail
            refine (GF4.c13 (GF4.begin_ W n d (nbF A) st dg) hG0 c0).mono ?_
            rintro e w3 ⟨b0, tg3, rfl, hR⟩
            go_wp2_with fail
            refine (GF4.c14 hR hG0 c1).mono ?_
            rintro e w4 ⟨b1', tg4, rfl, hR⟩
            go_wp2_with fail
            refine (GF4.c15 hR hG0 c2).mono ?_
            rintro e w5 ⟨b2', tg5, rfl, hR⟩
            have hG := hR.src (by omega) HD.out
            have hx5 : Ext (fun _ => False) W w5 := hR.ext
            clear hR hG0 r0n r0 r1 r2
            go_upto_region 13 with fail
            refine wp_region_good (by kernel_rfl) (by kernel_rfl) (by kernel_rfl) (by kernel_rfl) (RF4 w5 n d (nbF A) st dg b0 b1' b2' vn u w2) RF4.start (OpsAll.all0 ⟨?_, ?_, ?_, ?_, ?_, ?_, ?_, ?_, ?_, ?_, ?_, ?_, ?_, ?_, ?_, ?_, ?_, ?_, ?_, ?_, ?_, ?_, ?_, ?_, ?_, ?_, ?_, ?_, ?_, ?_, ?_, ?_, ?_, trivial⟩) ?_
            rotate_right
            · intro vv wc hRF
              obtain ⟨tv, hP, e22, e23, e24⟩ := RF4.end_ hRF
              obtain ⟨hxc, aA, aS, aD, cA, cS, cD, d', N', st', dg', f0, f1, f2, hE⟩ := end4 (by omega) HGn.out HTwo.out HDeg.out hP
              rw [f0] at e22
              rw [f1] at e23
              rw [f2] at e24
              have hxW : Ext (fun _ => False) W wc := hx5.trans hxc (fun _ _ h => h)
              have hst := hG.sta.ext hxc (fun _ _ h => h)
              have q1 : (((n : Int) + 1) != ((n : Int) + 1)) = false := by simp
              clear hRF hP f0 f1 f2 hG
              simp only [putAll, e22, e23, e24]
              go_wp2_with fail
              refine (wf_any (fun _ => True) aA (n + 1) cA d' _ wc (by omega) hE.adj).mono ?_
              rintro e w' ⟨⟨r, rfl, hr⟩, hw⟩
              subst w'
              obtain rfl : r = true := hr.2 hE.wf
              clear hr
              go_wp2_with fail
              refine (degOk_any (fun _ => True) aA aS aD (n + 1) cA cS cD d' N' st' dg' wc (by omega) hE.dle hE.lt hE.adj hE.sta hE.deg).mono ?_
              rintro e w' ⟨⟨r, rfl, hr⟩, hw⟩
              subst w'
              obtain rfl : r = true := hr.2 hE.ok
              clear hr
              go_wp2_with fail
              refine (freeCount_any (fun _ => True) aS (n + 1) cS st' wc (by omega) hE.sta).mono ?_
              rintro e w' ⟨rfl, hw⟩
              subst w'
              go_wp2_with fail
              refine (freeCount_any (fun _ => True) b1' n n st wc (by omega) hst).mono ?_
              rintro e w' ⟨rfl, hw⟩
              subst w'
              have hfr := hE.free
              have hc1 := cnt_le n (isF st)
              clear hE hst
              generalize cnt (n + 1) (isF st') = f1 at *
              generalize cnt n (isF st) = f2 at *
              have q2 : ((f1 : Int) == (f2 : Int) - 2) = true := by rw [beq_iff_eq]; omega
              go_wp2_with fail
              go_ret
              exact ⟨rfl, hxW⟩
            · exact goodMove (.tmp 0) (.inl rfl) (fun m a w h hm ht => h.mv 0 _ (by omega) (by omega) (by omega) (by omega) (by omega) (fun _ => (ht.out 0 (by kernel_rfl)).trans (by kernel_rfl)) (fun e => by omega) (fun e => by omega) (fun e => by omega) (fun e => by omega))
            · refine goodCall 13 [.tmp 67] _ _ rfl Try.func13 (by kernel_rfl) (by kernel_rfl) (fun m a w h hm ht => ?_)
              have e := h.m0 _ (ht.on 0 67 (by kernel_rfl) (by kernel_rfl))
              have hc := h.call1 hG hm
              rw [← e] at hc
              exact hc
            · exact goodMove (.tmp 1) (.inl rfl) (fun m a w h hm ht => h.mv 2 _ (by omega) (by omega) (by omega) (by omega) (by omega) (fun e => by omega) (fun _ => (ht.out 1 (by kernel_rfl)).trans (by kernel_rfl)) (fun e => by omega) (fun e => by omega) (fun e => by omega))
            · refine goodCall 14 [.tmp 69] _ _ rfl Try.func14 (by kernel_rfl) (by kernel_rfl) (fun m a w h hm ht => ?_)
              have e := h.m2 _ (ht.on 2 69 (by kernel_rfl) (by kernel_rfl))
              have hc := h.call3 hG hm
              rw [← e] at hc
              exact hc
            · exact goodMove (.tmp 2) (.inl rfl) (fun m a w h hm ht => h.mv 4 _ (by omega) (by omega) (by omega) (by omega) (by omega) (fun e => by omega) (fun e => by omega) (fun _ => (ht.out 2 (by kernel_rfl)).trans (by kernel_rfl)) (fun e => by omega) (fun e => by omega))
            · refine goodCall 15 [.tmp 71] _ _ rfl Try.func15 (by kernel_rfl) (by kernel_rfl) (fun m a w h hm ht => ?_)
              have e := h.m4 _ (ht.on 4 71 (by kernel_rfl) (by kernel_rfl))
              have hc := h.call5 hG hm
              rw [← e] at hc
              exact hc
            · exact goodMove (.tmp 9) (.inl rfl) (fun m a w h hm ht => h.mv 6 _ (by omega) (by omega) (by omega) (by omega) (by omega) (fun e => by omega) (fun e => by omega) (fun e => by omega) (fun _ => (ht.out 9 (by kernel_rfl)).trans (by kernel_rfl)) (fun e => by omega))
            · refine goodMake 26 (.tmp 73) (.tmp 73) rfl (fun m a w h hm ht => ?_)
              have e := h.m6 _ (ht.on 6 73 (by kernel_rfl) (by kernel_rfl))
              rw [e]
              exact h.make7 (by omega) hm
            · exact goodMove (.tmp 3) (.inl rfl) (fun m a w h hm ht => h.mv 8 _ (by omega) (by omega) (by omega) (by omega) (by omega) (fun e => by omega) (fun e => by omega) (fun e => by omega) (fun e => by omega) (fun _ => (ht.out 3 (by kernel_rfl)).trans (by kernel_rfl)))
            · refine goodCall 19 [.tmp 68, .tmp 70, .tmp 72, .const (.slice none 0 0), .const (.int .i64 0), .const (.int .i64 0), .const (.slice none 0 0), .const (.slice none 0 0), .tmp 74, .const (.slice none 0 0), .const (.slice none 0 0), .const (.slice none 0 0), .tmp 75] _ _ rfl Try.func19 (by kernel_rfl) (by kernel_rfl) (fun m a w h hm ht => ?_)
              have m1 := ht.on 1 68 (by kernel_rfl) (by kernel_rfl)
              have m3 := ht.on 3 70 (by kernel_rfl) (by kernel_rfl)
              have m5 := ht.on 5 72 (by kernel_rfl) (by kernel_rfl)
              have m7 := ht.on 7 74 (by kernel_rfl) (by kernel_rfl)
              have e8 := h.m8 _ (ht.on 8 75 (by kernel_rfl) (by kernel_rfl))
              have hc := h.call9 (by omega) HGn.out HTwo.out hm m1 m3 m5 m7
              rw [← e8] at hc
              exact hc
            · refine goodMove (.tmp 76) (.inl rfl) (fun m a w h hm ht => ?_)
              have e9 := ht.on 9 76 (by kernel_rfl) (by kernel_rfl)
              obtain ⟨tv, hp⟩ := h.out e9 (by omega)
              exact h.put hp 10 _ (by omega) (fun _ => by have h9 := hp.m9; rw [e9] at h9; injection h9) (fun k hk e => by omega) (fun k hk e => by omega)
            · exact goodExtract (.tmp 66) 0 rfl (fun m a w h hm ht => h.ext 0 (by omega) (ht.on 10 66 (by kernel_rfl) (by kernel_rfl)))
            · exact goodExtract (.tmp 66) 1 rfl (fun m a w h hm ht => h.ext 1 (by omega) (ht.on 10 66 (by kernel_rfl) (by kernel_rfl)))
            · exact goodExtract (.tmp 66) 2 rfl (fun m a w h hm ht => h.ext 2 (by omega) (ht.on 10 66 (by kernel_rfl) (by kernel_rfl)))
            · exact goodExtract (.tmp 66) 3 rfl (fun m a w h hm ht => h.ext 3 (by omega) (ht.on 10 66 (by kernel_rfl) (by kernel_rfl)))
            · exact goodExtract (.tmp 66) 4 rfl (fun m a w h hm ht => h.ext 4 (by omega) (ht.on 10 66 (by kernel_rfl) (by kernel_rfl)))
            · exact goodExtract (.tmp 66) 5 rfl (fun m a w h hm ht => h.ext 5 (by omega) (ht.on 10 66 (by kernel_rfl) (by kernel_rfl)))
            · exact goodExtract (.tmp 66) 6 rfl (fun m a w h hm ht => h.ext 6 (by omega) (ht.on 10 66 (by kernel_rfl) (by kernel_rfl)))
            · exact goodExtract (.tmp 66) 7 rfl (fun m a w h hm ht => h.ext 7 (by omega) (ht.on 10 66 (by kernel_rfl) (by kernel_rfl)))
            · exact goodExtract (.tmp 66) 8 rfl (fun m a w h hm ht => h.ext 8 (by omega) (ht.on 10 66 (by kernel_rfl) (by kernel_rfl)))
            · exact goodExtract (.tmp 66) 9 rfl (fun m a w h hm ht => h.ext 9 (by omega) (ht.on 10 66 (by kernel_rfl) (by kernel_rfl)))
            · exact goodExtract (.tmp 66) 10 rfl (fun m a w h hm ht => h.ext 10 (by omega) (ht.on 10 66 (by kernel_rfl) (by kernel_rfl)))
            · exact goodMove (.tmp 77) (.inr rfl) (fun m a w h hm ht => h.asg 0 (by omega) (ht.on 11 77 (by kernel_rfl) (by kernel_rfl)))
            · exact goodMove (.tmp 78) (.inr rfl) (fun m a w h hm ht => h.asg 1 (by omega) (ht.on 12 78 (by kernel_rfl) (by kernel_rfl)))
            · exact goodMove (.tmp 79) (.inr rfl) (fun m a w h hm ht => h.asg 2 (by omega) (ht.on 13 79 (by kernel_rfl) (by kernel_rfl)))
            · exact goodMove (.tmp 80) (.inr rfl) (fun m a w h hm ht => h.asg 3 (by omega) (ht.on 14 80 (by kernel_rfl) (by kernel_rfl)))
            · exact goodMove (.tmp 81) (.inr rfl) (fun m a w h hm ht => h.asg 4 (by omega) (ht.on 15 81 (by kernel_rfl) (by kernel_rfl)))
            · exact goodMove (.tmp 82) (.inr rfl) (fun m a w h hm ht => h.asg 5 (by omega) (ht.on 16 82 (by kernel_rfl) (by kernel_rfl)))
            · exact goodMove (.tmp 83) (.inr rfl) (fun m a w h hm ht => h.asg 6 (by omega) (ht.on 17 83 (by kernel_rfl) (by kernel_rfl)))
            · exact goodMove (.tmp 84) (.inr rfl) (fun m a w h hm ht => h.asg 7 (by omega) (ht.on 18 84 (by kernel_rfl) (by kernel_rfl)))
            · exact goodMove (.tmp 85) (.inr rfl) (fun m a w h hm ht => h.asg 8 (by omega) (ht.on 19 85 (by kernel_rfl) (by kernel_rfl)))
            · exact goodMove (.tmp 86) (.inr rfl) (fun m a w h hm ht => h.asg 9 (by omega) (ht.on 20 86 (by kernel_rfl) (by kernel_rfl)))
            · exact goodMove (.tmp 87) (.inr rfl) (fun m a w h hm ht => h.asg 10 (by omega) (ht.on 21 87 (by kernel_rfl) (by kernel_rfl)))
      · clear hab
        go_wp2_with fail
        go_ret
        exact ⟨rfl, Ext.refl _ _⟩
    · by_cases hl1 : ns ≤ 1048576
      · have b1 : decide ((1048576 : Int) < (ns : Int)) = false := by simp; omega
        have b2 : decide ((131072 : Int) < (nd : Int)) = true := by simp; omega
        go_wp2_with fail
        go_ret
        exact ⟨rfl, Ext.refl _ _⟩
      · have b1 : decide ((1048576 : Int) < (ns : Int)) = true := by simp; omega
        go_wp2_with fail
        go_ret
        exact ⟨rfl, Ext.refl _ _⟩
end Go.Proofs.Qxb6601557a
