/-
  FnCliqueOfThreeMeansTriangleThread: the walk. By an AI agent.
-/
import Derived.Test.Qxb6601557aThr
import Derived.Test.Qxb6601557aRegC
import Derived.Test.Qxb6601557aRegT
import Derived.Test.Qxb6601557aBytes
import Derived.Test.Qxb6601557aAdjBytes
import Derived.Test.Qxb6601557aFrame
import Derived.Deep.RegionWith
import Derived.Deep.CutRange
namespace Go.Proofs.Qxb6601557a
set_option linter.unusedVariables false
open Go.RowKit

set_option maxHeartbeats 1000000 in
set_option maxRecDepth 100000 in
theorem law9 (W : World) (S : Nat → Prop) (a0 a1 a2 a3 : Option Addr) (n c0 ns c1 nd c2 np c3 : Nat) (d : Nat → Nat) (A : Nat → Nat → Int) (st dg P : Nat → Int)
    (h0 : n ≤ 17592186044416) (h1 : ns ≤ 140737488355328) (h2 : nd ≤ 17592186044416) (h3 : np ≤ 17592186044416)
    (r0 : RdAdj S W a0 n d A) (r1 : Rd S W a1 ns (fun j => .int .i8 (st j))) (r2 : Rd S W a2 nd (fun j => .int .i64 (dg j))) (r3 : Rd S W a3 np (fun j => .int .i64 (P j))) :
    Calls Try.prog 9 #[.slice a0 n c0, .slice a1 ns c1, .slice a2 nd c2, .slice a3 np c3] W (Fine W) := by
  go_enter Try.func9, Try.ntmps9
  go_wp2_with fail
  refine (bytes40_any S a0 n c0 d A W (by omega) r0 a1 ns c1 a2 nd c2 a3 np c3 (by omega) (by omega) (by omega)).mono ?_
  rintro e w' ⟨⟨r, rfl⟩, hw⟩
  subst w'
  cases r with
  | false =>
    go_wp2_with fail
    go_ret
    exact ⟨rfl, Ext.refl _ _⟩
  | true =>
    by_cases hlen : ns ≤ 1048576 ∧ nd ≤ 131072 ∧ np ≤ 4096
    · obtain ⟨hl1, hl2, hl3⟩ := hlen
      have b1 : decide ((1048576 : Int) < (ns : Int)) = false := by simp; omega
      have b2 : decide ((131072 : Int) < (nd : Int)) = false := by simp; omega
      have b3 : decide ((4096 : Int) < (np : Int)) = false := by simp; omega
      go_wp2_with fail
      refine (adjBytes_any S a0 n c0 d A W (by omega) r0).mono ?_
      rintro e w' ⟨t, rfl, hab, hw⟩
      subst w'
      have hlo := hab.lo
      have hhi := hab.hi
      by_cases hsum : t + ns + 8 * nd + 8 * np ≤ 1048576
      · obtain ⟨hn, hd⟩ := hab.ok (by omega)
        have HD : Hid (∀ p, p < n → d p ≤ 131072) := hd
        clear hd hab
        go_wp2_with (at_make; refine wpList_mk _ rfl _ _ 24 rfl 3 (.int .i64 0) 8 Try.underlying24 info3 rfl _ _ n rfl rfl rfl rfl (by omega) (by omega) ?_)
        intro w1 hown hx1 hsz
        go_wp2_with fail
        refine (places_any (fun _ => True) a0 a1 a2 _ a3 n c0 ns c1 nd c2 n n np c3 d A st dg (fun _ => 0) P w1 (by omega) (by omega) (by omega) (by omega) (by omega) ((r0.ext hx1 (fun _ _ h => h)).mono (fun _ _ => trivial)) ((r1.ext hx1 (fun _ _ h => h)).mono (fun _ _ => trivial)) ((r2.ext hx1 (fun _ _ h => h)).mono (fun _ _ => trivial)) (hown.rd.mono (fun _ _ => trivial)) ((r3.ext hx1 (fun _ _ h => h)).mono (fun _ _ => trivial))).mono ?_
        rintro e w2 ⟨⟨r, rfl, hprem⟩, hx2⟩
        have hx : Ext (fun _ => False) W w2 := hx1.trans hx2 (fun _ _ h => h)
        clear hown hx1 hx2 hsz
        cases r with
        | false =>
          go_wp2_with fail
          go_ret
          exact ⟨rfl, hx⟩
        | true =>
          have hp := hprem rfl
          clear hprem
          obtain ⟨e1, e2, _, hwf, _, hpl⟩ := hp
          subst ns
          subst nd
          have HPl : Hid (∀ k, k < np → PlaceOk n st dg P k) := hpl
          clear hpl
          have hG0 : Src w2 n d A st dg np P a0 a1 a2 a3 := ⟨(r0.ext hx (fun _ _ h => h)).mono (fun _ _ => trivial), (r1.ext hx (fun _ _ h => h)).mono (fun _ _ => trivial), (r2.ext hx (fun _ _ h => h)).mono (fun _ _ => trivial), (r3.ext hx (fun _ _ h => h)).mono (fun _ _ => trivial), by omega, by omega, HD.out⟩
          go_wp2_with fail
          refine (RG.c13 (RG.begin_ w2) hG0 c0).mono ?_
          rintro e w3 ⟨b0, rfl, hR⟩
          go_wp2_with fail
          refine (RG.c14 hR hG0 c1).mono ?_
          rintro e w4 ⟨b1, rfl, hR⟩
          go_wp2_with fail
          refine (RG.c15d hR hG0 c2).mono ?_
          rintro e w5 ⟨b2, rfl, hR⟩
          go_wp2_with fail
          refine (RG.c15p hR hG0 c3).mono ?_
          rintro e w6 ⟨b3, rfl, hR⟩
          have hG := hR.src (by omega) (by omega) HD.out
          have hx6 : Ext (fun _ => False) W w6 := hx.trans hR.ext (fun _ _ h => h)
          clear hR hG0 hx r0 r1 r2 r3
          go_upto_region 14 with fail
          refine wp_region_good (by kernel_rfl) (by kernel_rfl) (by kernel_rfl) (by kernel_rfl) (RC w6 n d A st dg np P b0 b1 b2 b3 0) RC.start (OpsAll.all0 ⟨?_, ?_, ?_, ?_, ?_, ?_, ?_, ?_, ?_, ?_, ?_, ?_, ?_, ?_, ?_, ?_, ?_, ?_, trivial⟩) ?_
          rotate_right
          · intro vv wc hRC
            obtain ⟨tt, O, aC, capC, bb, hCE⟩ := RC.end_ hRC
            have hCR := hCE.res
            have e15 := hCE.v15
            have e16 := hCE.v16
            have e17 := hCE.v17
            clear hCE hRC
            have hPart := partOk hwf HPl.out hCR.ord
            obtain ⟨R, cp, hO1, hO2⟩ := hCR.rows
            have hxc := hCR.ext
            clear hCR
            generalize runC d (nb A) O np = s at *
            have hGc : Src wc n d A st dg np P b0 b1 b2 b3 := ⟨hG.adj.ext hxc (fun _ _ h => h), hG.sta.ext hxc (fun _ _ h => h), hG.deg.ext hxc (fun _ _ h => h), hG.pl.ext hxc (fun _ _ h => h), hG.hn, hG.hnp, hG.hd⟩
            have hxW : Ext (fun _ => False) W wc := hx6.trans hxc (fun _ _ h => h)
            clear hx6 hxc
            simp only [putAll, e15, e16, e17]
            clear e15 e16 e17
            go_upto_region 15 with fail
            refine wp_region_good (by kernel_rfl) (by kernel_rfl) (by kernel_rfl) (by kernel_rfl) (RT wc n d A st dg np P b0 b1 b2 b3 0) RT.start (OpsAll.all0 ⟨?_, ?_, ?_, ?_, ?_, ?_, ?_, ?_, ?_, ?_, ?_, ?_, ?_, ?_, ?_, ?_, ?_, ?_, ?_, ?_, ?_, ?_, trivial⟩) ?_
            rotate_right
            · intro vv2 wt hRT
              obtain ⟨t2, O2, bT, hTE⟩ := RT.end_ hRT
              have hTR := hTE.res
              have e18 := hTE.v18
              have e19 := hTE.v19
              have e20 := hTE.v20
              have e21 := hTE.v21
              clear hTE hRT
              -- BEGINREST2
              have hthr : ∀ c, 3 ≤ s.sz c → (ttTo d (nb A) (okF st) (fun _ => false) O2 np).1.isSome = true ∧ ttP (ttTo d (nb A) (okF st) (fun _ => false) O2 np) O2 < n ∧ ∀ i, i < s.sz c → dg (s.el c i) ≤ dg (ttP (ttTo d (nb A) (okF st) (fun _ => false) O2 np) O2) := by
                intro c h3
                obtain ⟨k, hk, hkn, hle⟩ := hPart.thread hwf HPl.out hTR.ord h3
                have ee : ttP (ttTo d (nb A) (okF st) (fun _ => false) O2 np) O2 = O2 k := by unfold ttP; rw [hk]
                rw [ee, hk]
                exact ⟨rfl, hTR.ord.lt HPl.out hkn, hle⟩
              simp only [putAll, e18, e19, e20, e21]
              clear e18 e19 e20 e21
              generalize ttP (ttTo d (nb A) (okF st) (fun _ => false) O2 np) O2 = tv at *
              generalize (ttTo d (nb A) (okF st) (fun _ => false) O2 np).1.isSome = bv at *
              generalize wrap64 (0 + (2 * (np : Int) + (t2 : Int)) + (((ttTo d (nb A) (okF st) (fun _ => false) O2 np).2 : Nat) : Int)) = sv at *
              have HThr : Hid (∀ c, 3 ≤ s.sz c → bv = true ∧ tv < n ∧ ∀ i, i < s.sz c → dg (s.el c i) ≤ dg tv) := hthr
              clear hthr
              have hxt := hTR.ext
              have hd2 := hGc.deg.ext hxt (fun _ _ h => h)
              have hxW2 : Ext (fun _ => False) W wt := hxW.trans hxt (fun _ _ h => h)
              have hO1' := hO1.ext hxt (fun _ _ h => h)
              have hO2' := fun c hc => (hO2 c hc).ext hxt (fun _ _ h => h)
              clear hO1 hO2 hxW hxt hTR hG hGc
              have hncle := hPart.ncle
              go_wp2_with fail
              go_loopw [17] (fun s17 wr => ∃ c : Nat, c ≤ s.nc ∧ s17 = .int .i64 c ∧ Ext (fun _ => False) wt wr) (fun i _ => s.nc - (intOf i).toNat)
              case atStart => exact ⟨0, Nat.zero_le _, rfl, Ext.refl _ _⟩
              case round =>
                obtain ⟨c, hc, rfl, hx⟩ := hrel
                by_cases hcl : c < s.nc
                · obtain ⟨bo, offo, rfl, _, hco⟩ := (hO1'.rd.ext hx (fun _ _ h => h)) c hcl
                  have hszl := hPart.szle c
                  have hrow := (hO2' c hcl).rd.ext hx (fun _ _ h => h)
                  dsimp only at hco
                  obtain ⟨ra, hra⟩ : ∃ ra, R c = ra := ⟨_, rfl⟩
                  rw [hra] at hco hrow
                  clear hra
                  by_cases h3 : 3 ≤ s.sz c
                  · obtain ⟨hbv, htv, hle⟩ := HThr.out c h3
                    have HLe : Hid (∀ i, i < s.sz c → dg (s.el c i) ≤ dg tv) := hle
                    have HEl : Hid (∀ i, i < s.sz c → s.el c i < n) := fun i hi => (hPart.el c i hi).1
                    clear hle
                    have e3 : decide ((s.sz c : Int) < 3) = false := by simp; omega
                    go_wp2_with fail
                    go_loopw [123] (fun s123 wr2 => ∃ i : Nat, i ≤ s.sz c ∧ s123 = .int .i64 i ∧ Ext (fun _ => False) wr wr2) (fun i' _ => s.sz c - (intOf i').toNat)
                    case atStart => exact ⟨0, Nat.zero_le _, rfl, Ext.refl _ _⟩
                    case round =>
                      obtain ⟨i, hi, rfl, hx2⟩ := hrel
                      by_cases hil : i < s.sz c
                      · obtain ⟨br, offr, rfl, _, hcr⟩ := (hrow.ext hx2 (fun _ _ h => h)) i hil
                        have hdl := HLe.out i hil
                        have hel := HEl.out i hil
                        dsimp only at hcr
                        generalize s.el c i = r at *
                        go_upto_region 25 with fail
                        have hd2' := (hd2.ext hx (fun _ _ h => h)).ext hx2 (fun _ _ h => h)
                        obtain ⟨bd, offd, rfl, _, hcd⟩ := hd2' r hel
                        obtain ⟨_, _, eD, _, hcd1⟩ := hd2' tv htv
                        obtain ⟨rfl, rfl⟩ : bd = _ ∧ offd = _ := by simpa using eD
                        clear eD hd2'
                        have k1 : (r : Int) < (n : Int) := by omega
                        have k2 : (tv : Int) < (n : Int) := by omega
                        have k5 : (0 : Int) ≤ (r : Int) := by omega
                        have k6 : (0 : Int) ≤ (tv : Int) := by omega
                        have k7 : decide (dg tv < dg r) = false := by simp; omega
                        go_quiet (fail)
                        go_wp2_with fail
                        go_roundw
                        case rel => exact ⟨i + 1, by omega, by go_num, hx2.drewN _⟩
                        case measure => simp [intOf]; omega
                      · have ei : i = s.sz c := by omega
                        subst i
                        go_wp2_with fail
                        go_roundw
                        case rel => exact ⟨c + 1, by omega, by go_num, hx.trans hx2 (fun _ _ h => h)⟩
                        case measure => simp [intOf]; omega
                  · have e3 : decide ((s.sz c : Int) < 3) = true := by simp; omega
                    go_wp2_with fail
                    go_roundw
                    case rel => exact ⟨c + 1, by omega, by go_num, hx⟩
                    case measure => simp [intOf]; omega
                · go_wp2_with fail
                  go_ret
                  exact ⟨rfl, hxW2.trans hx (fun _ _ h => h)⟩
            · exact goodMove (.tmp 0) (.inl rfl) (fun m a w h hm ht => h.mv 0 _ (by omega) (by omega) (by omega) (by omega) (by omega) (by omega) (by omega) (fun _ => (ht.out 0 (by kernel_rfl)).trans (by kernel_rfl)) (fun e => by omega) (fun e => by omega) (fun e => by omega) (fun e => by omega) (fun e => by omega))
            · refine goodCall 13 [.tmp 87] _ Try.f13 rfl Try.func13 (by kernel_rfl) (by kernel_rfl) (fun m a w h hm ht => ?_)
              have e : a.eval (.tmp 87) = _ := h.m0 _ (ht.on 0 87 (by kernel_rfl) (by kernel_rfl))
              simp only [List.map_cons, List.map_nil, e]
              exact h.call1 hGc hm
            · exact goodMove (.tmp 1) (.inl rfl) (fun m a w h hm ht => h.mv 2 _ (by omega) (by omega) (by omega) (by omega) (by omega) (by omega) (by omega) (fun e => by omega) (fun _ => (ht.out 1 (by kernel_rfl)).trans (by kernel_rfl)) (fun e => by omega) (fun e => by omega) (fun e => by omega) (fun e => by omega))
            · refine goodCall 14 [.tmp 89] _ Try.f14 rfl Try.func14 (by kernel_rfl) (by kernel_rfl) (fun m a w h hm ht => ?_)
              have e : a.eval (.tmp 89) = _ := h.m2 _ (ht.on 2 89 (by kernel_rfl) (by kernel_rfl))
              simp only [List.map_cons, List.map_nil, e]
              exact h.call3 hGc hm
            · exact goodMove (.tmp 2) (.inl rfl) (fun m a w h hm ht => h.mv 4 _ (by omega) (by omega) (by omega) (by omega) (by omega) (by omega) (by omega) (fun e => by omega) (fun e => by omega) (fun _ => (ht.out 2 (by kernel_rfl)).trans (by kernel_rfl)) (fun e => by omega) (fun e => by omega) (fun e => by omega))
            · refine goodCall 15 [.tmp 91] _ Try.f15 rfl Try.func15 (by kernel_rfl) (by kernel_rfl) (fun m a w h hm ht => ?_)
              have e : a.eval (.tmp 91) = _ := h.m4 _ (ht.on 4 91 (by kernel_rfl) (by kernel_rfl))
              simp only [List.map_cons, List.map_nil, e]
              exact h.call5 hGc hm
            · exact goodMove (.tmp 9) (.inl rfl) (fun m a w h hm ht => h.mv 6 _ (by omega) (by omega) (by omega) (by omega) (by omega) (by omega) (by omega) (fun e => by omega) (fun e => by omega) (fun e => by omega) (fun _ => (ht.out 9 (by kernel_rfl)).trans (by kernel_rfl)) (fun e => by omega) (fun e => by omega))
            · refine goodMake 24 (.tmp 93) (.tmp 93) rfl (fun m a w h hm ht => ?_)
              have e : a.eval (.tmp 93) = _ := h.m6 _ (ht.on 6 93 (by kernel_rfl) (by kernel_rfl))
              rw [e]
              exact h.make7 (by omega) hm
            · exact goodMove (.tmp 9) (.inl rfl) (fun m a w h hm ht => h.mv 8 _ (by omega) (by omega) (by omega) (by omega) (by omega) (by omega) (by omega) (fun e => by omega) (fun e => by omega) (fun e => by omega) (fun e => by omega) (fun _ => (ht.out 9 (by kernel_rfl)).trans (by kernel_rfl)) (fun e => by omega))
            · refine goodMake 26 (.tmp 95) (.tmp 95) rfl (fun m a w h hm ht => ?_)
              have e : a.eval (.tmp 95) = _ := h.m8 _ (ht.on 8 95 (by kernel_rfl) (by kernel_rfl))
              rw [e]
              exact h.make9 (by omega) hm
            · exact goodMove (.tmp 3) (.inl rfl) (fun m a w h hm ht => h.mv 10 _ (by omega) (by omega) (by omega) (by omega) (by omega) (by omega) (by omega) (fun e => by omega) (fun e => by omega) (fun e => by omega) (fun e => by omega) (fun e => by omega) (fun _ => (ht.out 3 (by kernel_rfl)).trans (by kernel_rfl)))
            · refine goodCall 15 [.tmp 97] _ Try.f15 rfl Try.func15 (by kernel_rfl) (by kernel_rfl) (fun m a w h hm ht => ?_)
              have e : a.eval (.tmp 97) = _ := h.m10 _ (ht.on 10 97 (by kernel_rfl) (by kernel_rfl))
              simp only [List.map_cons, List.map_nil, e]
              exact h.call11 hGc hm
            · refine goodCall 37 [.tmp 88, .tmp 90, .tmp 92, .const (.int .i64 0), .tmp 94, .tmp 96, .tmp 98] _ Try.f37 rfl Try.func37 (by kernel_rfl) (by kernel_rfl) (fun m a w h hm ht => ?_)
              exact h.call12 hwf HPl.out HD.out (by omega) (by omega) hm (ht.on 1 88 (by kernel_rfl) (by kernel_rfl)) (ht.on 3 90 (by kernel_rfl) (by kernel_rfl)) (ht.on 5 92 (by kernel_rfl) (by kernel_rfl)) (ht.on 7 94 (by kernel_rfl) (by kernel_rfl)) (ht.on 9 96 (by kernel_rfl) (by kernel_rfl)) (ht.on 11 98 (by kernel_rfl) (by kernel_rfl))
            · refine goodMove (.tmp 99) (.inl rfl) (fun m a w h hm ht => ?_)
              have e10 := ht.on 12 99 (by kernel_rfl) (by kernel_rfl)
              obtain ⟨t', O, b, hp⟩ := h.out e10 (by omega)
              exact h.put hp 13 _ (by omega) (fun _ => by have := hp.m12; rw [e10] at this; injection this) (fun e => by omega) (fun e => by omega) (fun e => by omega) (fun e => by omega)
            · refine goodExtract (.tmp 86) 0 rfl (fun m a w h hm ht => ?_)
              have e11 := ht.on 13 86 (by kernel_rfl) (by kernel_rfl)
              obtain ⟨t', O, b, hp⟩ := h.out e11 (by omega)
              exact ⟨_, _, hp.m13 _ e11, rfl, h.put hp 14 _ (by omega) (fun e => by omega) (fun _ => rfl) (fun e => by omega) (fun e => by omega) (fun e => by omega)⟩
            · refine goodExtract (.tmp 86) 1 rfl (fun m a w h hm ht => ?_)
              have e11 := ht.on 13 86 (by kernel_rfl) (by kernel_rfl)
              obtain ⟨t', O, b, hp⟩ := h.out e11 (by omega)
              exact ⟨_, _, hp.m13 _ e11, rfl, h.put hp 15 _ (by omega) (fun e => by omega) (fun e => by omega) (fun _ => rfl) (fun e => by omega) (fun e => by omega)⟩
            · refine goodExtract (.tmp 86) 2 rfl (fun m a w h hm ht => ?_)
              have e11 := ht.on 13 86 (by kernel_rfl) (by kernel_rfl)
              obtain ⟨t', O, b, hp⟩ := h.out e11 (by omega)
              exact ⟨_, _, hp.m13 _ e11, rfl, h.put hp 16 _ (by omega) (fun e => by omega) (fun e => by omega) (fun e => by omega) (fun _ => rfl) (fun e => by omega)⟩
            · refine goodExtract (.tmp 86) 3 rfl (fun m a w h hm ht => ?_)
              have e11 := ht.on 13 86 (by kernel_rfl) (by kernel_rfl)
              obtain ⟨t', O, b, hp⟩ := h.out e11 (by omega)
              exact ⟨_, _, hp.m13 _ e11, rfl, h.put hp 17 _ (by omega) (fun e => by omega) (fun e => by omega) (fun e => by omega) (fun e => by omega) (fun _ => rfl)⟩
            · refine goodMove (.tmp 100) (.inr rfl) (fun m a w h hm ht => ?_)
              have e1 := ht.on 14 100 (by kernel_rfl) (by kernel_rfl)
              obtain ⟨t', O, b, hp⟩ := h.out e1 (by omega)
              exact h.put hp 18 _ (by omega) (fun e => by omega) (fun _ => hp.m14 _ e1) (fun e => by omega) (fun e => by omega) (fun e => by omega)
            · refine goodMove (.tmp 101) (.inr rfl) (fun m a w h hm ht => ?_)
              have e1 := ht.on 15 101 (by kernel_rfl) (by kernel_rfl)
              obtain ⟨t', O, b, hp⟩ := h.out e1 (by omega)
              exact h.put hp 19 _ (by omega) (fun e => by omega) (fun e => by omega) (fun _ => hp.m15 _ e1) (fun e => by omega) (fun e => by omega)
            · refine goodMove (.tmp 102) (.inr rfl) (fun m a w h hm ht => ?_)
              have e1 := ht.on 16 102 (by kernel_rfl) (by kernel_rfl)
              obtain ⟨t', O, b, hp⟩ := h.out e1 (by omega)
              exact h.put hp 20 _ (by omega) (fun e => by omega) (fun e => by omega) (fun e => by omega) (fun _ => hp.m16 _ e1) (fun e => by omega)
            · refine goodMove (.tmp 103) (.inr rfl) (fun m a w h hm ht => ?_)
              have e1 := ht.on 17 103 (by kernel_rfl) (by kernel_rfl)
              obtain ⟨t', O, b, hp⟩ := h.out e1 (by omega)
              exact h.put hp 21 _ (by omega) (fun e => by omega) (fun e => by omega) (fun e => by omega) (fun e => by omega) (fun _ => hp.m17 _ e1)
          · exact goodMove (.tmp 0) (.inl rfl) (fun m a w h hm ht => h.mv 0 _ (by omega) (by omega) (by omega) (by omega) (by omega) (by omega) (fun _ => (ht.out 0 (by kernel_rfl)).trans rfl) (fun e => by omega) (fun e => by omega) (fun e => by omega) (fun e => by omega))
          · refine goodCall 13 [.tmp 72] _ Try.f13 rfl Try.func13 (by kernel_rfl) (by kernel_rfl) (fun m a w h hm ht => ?_)
            have e : a.eval (.tmp 72) = _ := h.m0 _ (ht.on 0 72 (by kernel_rfl) (by kernel_rfl))
            simp only [List.map_cons, List.map_nil, e]
            exact h.call1 hG hm
          · exact goodMove (.tmp 1) (.inl rfl) (fun m a w h hm ht => h.mv 2 _ (by omega) (by omega) (by omega) (by omega) (by omega) (by omega) (fun e => by omega) (fun _ => (ht.out 1 (by kernel_rfl)).trans rfl) (fun e => by omega) (fun e => by omega) (fun e => by omega))
          · refine goodCall 14 [.tmp 74] _ Try.f14 rfl Try.func14 (by kernel_rfl) (by kernel_rfl) (fun m a w h hm ht => ?_)
            have e : a.eval (.tmp 74) = _ := h.m2 _ (ht.on 2 74 (by kernel_rfl) (by kernel_rfl))
            simp only [List.map_cons, List.map_nil, e]
            exact h.call3 hG hm
          · exact goodMove (.tmp 2) (.inl rfl) (fun m a w h hm ht => h.mv 4 _ (by omega) (by omega) (by omega) (by omega) (by omega) (by omega) (fun e => by omega) (fun e => by omega) (fun _ => (ht.out 2 (by kernel_rfl)).trans rfl) (fun e => by omega) (fun e => by omega))
          · refine goodCall 15 [.tmp 76] _ Try.f15 rfl Try.func15 (by kernel_rfl) (by kernel_rfl) (fun m a w h hm ht => ?_)
            have e : a.eval (.tmp 76) = _ := h.m4 _ (ht.on 4 76 (by kernel_rfl) (by kernel_rfl))
            simp only [List.map_cons, List.map_nil, e]
            exact h.call5 hG hm
          · exact goodMove (.tmp 9) (.inl rfl) (fun m a w h hm ht => h.mv 6 _ (by omega) (by omega) (by omega) (by omega) (by omega) (by omega) (fun e => by omega) (fun e => by omega) (fun e => by omega) (fun _ => (ht.out 9 (by kernel_rfl)).trans rfl) (fun e => by omega))
          · refine goodMake 24 (.tmp 78) (.tmp 78) rfl (fun m a w h hm ht => ?_)
            have e : a.eval (.tmp 78) = _ := h.m6 _ (ht.on 6 78 (by kernel_rfl) (by kernel_rfl))
            rw [e]
            exact h.make7 (by omega) hm
          · exact goodMove (.tmp 3) (.inl rfl) (fun m a w h hm ht => h.mv 8 _ (by omega) (by omega) (by omega) (by omega) (by omega) (by omega) (fun e => by omega) (fun e => by omega) (fun e => by omega) (fun e => by omega) (fun _ => (ht.out 3 (by kernel_rfl)).trans rfl))
          · refine goodCall 15 [.tmp 80] _ Try.f15 rfl Try.func15 (by kernel_rfl) (by kernel_rfl) (fun m a w h hm ht => ?_)
            have e : a.eval (.tmp 80) = _ := h.m8 _ (ht.on 8 80 (by kernel_rfl) (by kernel_rfl))
            simp only [List.map_cons, List.map_nil, e]
            exact h.call9 hG hm
          · refine goodCall 30 [.tmp 73, .tmp 75, .tmp 77, .const (.int .i64 0), .tmp 79, .tmp 81] _ Try.f30 rfl Try.func30 (by kernel_rfl) (by kernel_rfl) (fun m a w h hm ht => ?_)
            exact h.call10 hwf HPl.out HD.out (by omega) (by omega) hm (ht.on 1 73 (by kernel_rfl) (by kernel_rfl)) (ht.on 3 75 (by kernel_rfl) (by kernel_rfl)) (ht.on 5 77 (by kernel_rfl) (by kernel_rfl)) (ht.on 7 79 (by kernel_rfl) (by kernel_rfl)) (ht.on 9 81 (by kernel_rfl) (by kernel_rfl))
          · refine goodMove (.tmp 82) (.inl rfl) (fun m a w h hm ht => ?_)
            have e10 := ht.on 10 82 (by kernel_rfl) (by kernel_rfl)
            obtain ⟨t', O, aC, capC, b, hp⟩ := h.out e10 (by omega)
            exact h.put hp 11 _ (by omega) (fun _ => by have := hp.m10; rw [e10] at this; injection this) (fun e => by omega) (fun e => by omega) (fun e => by omega)
          · refine goodExtract (.tmp 71) 0 rfl (fun m a w h hm ht => ?_)
            have e11 := ht.on 11 71 (by kernel_rfl) (by kernel_rfl)
            obtain ⟨t', O, aC, capC, b, hp⟩ := h.out e11 (by omega)
            exact ⟨_, _, hp.m11 _ e11, rfl, h.put hp 12 _ (by omega) (fun e => by omega) (fun _ => rfl) (fun e => by omega) (fun e => by omega)⟩
          · refine goodExtract (.tmp 71) 1 rfl (fun m a w h hm ht => ?_)
            have e11 := ht.on 11 71 (by kernel_rfl) (by kernel_rfl)
            obtain ⟨t', O, aC, capC, b, hp⟩ := h.out e11 (by omega)
            exact ⟨_, _, hp.m11 _ e11, rfl, h.put hp 13 _ (by omega) (fun e => by omega) (fun e => by omega) (fun _ => rfl) (fun e => by omega)⟩
          · refine goodExtract (.tmp 71) 2 rfl (fun m a w h hm ht => ?_)
            have e11 := ht.on 11 71 (by kernel_rfl) (by kernel_rfl)
            obtain ⟨t', O, aC, capC, b, hp⟩ := h.out e11 (by omega)
            exact ⟨_, _, hp.m11 _ e11, rfl, h.put hp 14 _ (by omega) (fun e => by omega) (fun e => by omega) (fun e => by omega) (fun _ => rfl)⟩
          · refine goodMove (.tmp 83) (.inr rfl) (fun m a w h hm ht => ?_)
            have e1 := ht.on 12 83 (by kernel_rfl) (by kernel_rfl)
            obtain ⟨t', O, aC, capC, b, hp⟩ := h.out e1 (by omega)
            exact h.put hp 15 _ (by omega) (fun e => by omega) (fun _ => hp.m12 _ e1) (fun e => by omega) (fun e => by omega)
          · refine goodMove (.tmp 84) (.inr rfl) (fun m a w h hm ht => ?_)
            have e1 := ht.on 13 84 (by kernel_rfl) (by kernel_rfl)
            obtain ⟨t', O, aC, capC, b, hp⟩ := h.out e1 (by omega)
            exact h.put hp 16 _ (by omega) (fun e => by omega) (fun e => by omega) (fun _ => hp.m13 _ e1) (fun e => by omega)
          · refine goodMove (.tmp 85) (.inr rfl) (fun m a w h hm ht => ?_)
            have e1 := ht.on 14 85 (by kernel_rfl) (by kernel_rfl)
            obtain ⟨t', O, aC, capC, b, hp⟩ := h.out e1 (by omega)
            exact h.put hp 17 _ (by omega) (fun e => by omega) (fun e => by omega) (fun e => by omega) (fun _ => hp.m14 _ e1)
      · clear hab
        go_wp2_with fail
        go_ret
        exact ⟨rfl, Ext.refl _ _⟩
    · by_cases hl1 : ns ≤ 1048576
      · have b1 : decide ((1048576 : Int) < (ns : Int)) = false := by simp; omega
        by_cases hl2 : nd ≤ 131072
        · have b2 : decide ((131072 : Int) < (nd : Int)) = false := by simp; omega
          have b3 : decide ((4096 : Int) < (np : Int)) = true := by simp; omega
          go_wp2_with fail
          go_ret
          exact ⟨rfl, Ext.refl _ _⟩
        · have b2 : decide ((131072 : Int) < (nd : Int)) = true := by simp; omega
          go_wp2_with fail
          go_ret
          exact ⟨rfl, Ext.refl _ _⟩
      · have b1 : decide ((1048576 : Int) < (ns : Int)) = true := by simp; omega
        go_wp2_with fail
        go_ret
        exact ⟨rfl, Ext.refl _ _⟩
end Go.Proofs.Qxb6601557a
