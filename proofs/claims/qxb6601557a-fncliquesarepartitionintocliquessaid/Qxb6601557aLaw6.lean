/-
  FnCliquesArePartitionIntoCliques: the walk. By an AI agent.
-/
import Derived.Test.Qxb6601557aPart
import Derived.Test.Qxb6601557aRegC
import Derived.Test.Qxb6601557aBytes
import Derived.Test.Qxb6601557aAdjBytes
import Derived.Test.Qxb6601557aPlaces
import Derived.Deep.RegionWith
import Derived.Deep.CutRange
namespace Go.Proofs.Qxb6601557a
set_option linter.unusedVariables false
open Go.RowKit

/-- a law's end: true, and nothing that was there has turned. -/
structure Good (W : World) (e : Ending) (w' : World) : Prop where
  ret : e = .returned (.bool true)
  ext : Ext (fun _ => False) W w'

set_option maxHeartbeats 1000000 in
set_option maxRecDepth 100000 in
theorem law6 (W : World) (S : Nat → Prop) (a0 a1 a2 a3 : Option Addr) (n c0 ns c1 nd c2 np c3 : Nat) (d : Nat → Nat) (A : Nat → Nat → Int) (st dg P : Nat → Int)
    (h0 : n ≤ 17592186044416) (h1 : ns ≤ 140737488355328) (h2 : nd ≤ 17592186044416) (h3 : np ≤ 17592186044416)
    (r0 : RdAdj S W a0 n d A) (r1 : Rd S W a1 ns (fun j => .int .i8 (st j))) (r2 : Rd S W a2 nd (fun j => .int .i64 (dg j))) (r3 : Rd S W a3 np (fun j => .int .i64 (P j))) :
    Calls Try.prog 6 #[.slice a0 n c0, .slice a1 ns c1, .slice a2 nd c2, .slice a3 np c3] W (Good W) := by
  go_enter Try.func6, Try.ntmps6
  go_wp2_with fail
  refine (bytes34_any S a0 n c0 d A W (by omega) r0 a1 ns c1 a2 nd c2 a3 np c3 (by omega) (by omega) (by omega)).mono ?_
  rintro e w' ⟨⟨r, rfl⟩, hw⟩
  subst w'
  cases r with
  | false =>
    go_wp2_with fail
    go_ret
    exact ⟨rfl, Ext.refl _ _⟩
  | true =>
    by_cases hlen : ns ≤ 1048576 ∧ nd ≤ 131072 ∧ np ≤ 4096
    · obtain ⟨hl1, hl2, hl3⟩ := hlen
      have b1 : decide ((1048576 : Int) < (ns : Int)) = false := by simp; omega
      have b2 : decide ((131072 : Int) < (nd : Int)) = false := by simp; omega
      have b3 : decide ((4096 : Int) < (np : Int)) = false := by simp; omega
      go_wp2_with fail
      refine (adjBytes_any S a0 n c0 d A W (by omega) r0).mono ?_
      rintro e w' ⟨t, rfl, hab, hw⟩
      subst w'
      have hlo := hab.lo
      have hhi := hab.hi
      by_cases hsum : t + ns + 8 * nd + 8 * np ≤ 1048576
      · obtain ⟨hn, hd⟩ := hab.ok (by omega)
        have HD : Hid (∀ p, p < n → d p ≤ 131072) := hd
        clear hd hab
        go_wp2_with (at_make; refine wpList_mk _ rfl _ _ 24 rfl 3 (.int .i64 0) 8 Try.underlying24 info3 rfl _ _ n rfl rfl rfl rfl (by omega) (by omega) ?_)
        intro w1 hown hx1 hsz
        go_wp2_with fail
        refine (places_any (fun _ => True) a0 a1 a2 _ a3 n c0 ns c1 nd c2 n n np c3 d A st dg (fun _ => 0) P w1 (by omega) (by omega) (by omega) (by omega) (by omega) ((r0.ext hx1 (fun _ _ h => h)).mono (fun _ _ => trivial)) ((r1.ext hx1 (fun _ _ h => h)).mono (fun _ _ => trivial)) ((r2.ext hx1 (fun _ _ h => h)).mono (fun _ _ => trivial)) (hown.rd.mono (fun _ _ => trivial)) ((r3.ext hx1 (fun _ _ h => h)).mono (fun _ _ => trivial))).mono ?_
        rintro e w2 ⟨⟨r, rfl, hprem⟩, hx2⟩
        have hx : Ext (fun _ => False) W w2 := hx1.trans hx2 (fun _ _ h => h)
        clear hown hx1 hx2 hsz
        cases r with
        | false =>
          go_wp2_with fail
          go_ret
          exact ⟨rfl, hx⟩
        | true =>
          have hp := hprem rfl
          clear hprem
          obtain ⟨e1, e2, _, hwf, _, hpl⟩ := hp
          subst ns
          subst nd
          have HPl : Hid (∀ k, k < np → PlaceOk n st dg P k) := hpl
          clear hpl
          have hG0 : Src w2 n d A st dg np P a0 a1 a2 a3 := ⟨(r0.ext hx (fun _ _ h => h)).mono (fun _ _ => trivial), (r1.ext hx (fun _ _ h => h)).mono (fun _ _ => trivial), (r2.ext hx (fun _ _ h => h)).mono (fun _ _ => trivial), (r3.ext hx (fun _ _ h => h)).mono (fun _ _ => trivial), by omega, by omega, HD.out⟩
          go_wp2_with fail
          refine (RG.c13 (RG.begin_ w2) hG0 c0).mono ?_
          rintro e w3 ⟨b0, rfl, hR⟩
          go_wp2_with fail
          refine (RG.c14 hR hG0 c1).mono ?_
          rintro e w4 ⟨b1, rfl, hR⟩
          go_wp2_with fail
          refine (RG.c15d hR hG0 c2).mono ?_
          rintro e w5 ⟨b2, rfl, hR⟩
          go_wp2_with fail
          refine (RG.c15p hR hG0 c3).mono ?_
          rintro e w6 ⟨b3, rfl, hR⟩
          have hG := hR.src (by omega) (by omega) HD.out
          have hx6 : Ext (fun _ => False) W w6 := hx.trans hR.ext (fun _ _ h => h)
          clear hR hG0 hx r0 r1 r2 r3
          go_upto_region 14 with fail
          refine wp_region_good (by kernel_rfl) (by kernel_rfl) (by kernel_rfl) (by kernel_rfl) (RC w6 n d A st dg np P b0 b1 b2 b3 0) RC.start (OpsAll.all0 ⟨?_, ?_, ?_, ?_, ?_, ?_, ?_, ?_, ?_, ?_, ?_, ?_, ?_, ?_, ?_, ?_, ?_, ?_, trivial⟩) ?_
          rotate_right
          · intro vv wc hRC
            obtain ⟨tt, O, aC, capC, bb, hCE⟩ := RC.end_ hRC
            have hCR := hCE.res
            have e15 := hCE.v15
            have e16 := hCE.v16
            have e17 := hCE.v17
            clear hCE hRC
            -- BEGINREST
            have hPart := partOk hwf HPl.out hCR.ord
            obtain ⟨R, cp, hO1, hO2⟩ := hCR.rows
            have hxc := hCR.ext
            clear hCR
            generalize runC d (nb A) O np = s at *
            have hp3 := (hG.pl.ext hxc (fun _ _ h => h)).congr (f := fun j => .int .i64 (P j)) (g := fun j => .int .i64 (pn P j : Int)) (fun j hj => by rw [pn_eq (HPl.out j hj)])
            have hd2 := hG.deg.ext hxc (fun _ _ h => h)
            have ha0 := hG.adj.ext hxc (fun _ _ h => h)
            have hxW : Ext (fun _ => False) W wc := hx6.trans hxc (fun _ _ h => h)
            have hpn : ∀ k, k < np → pn P k < n := fun k hk => by have := pn_eq (HPl.out k hk); have := (HPl.out k hk).hi; omega
            have HPn : Hid (∀ k, k < np → pn P k < n) := hpn
            clear hpn hG hx6 hxc
            simp only [putAll, e15]
            go_wp2_with (at_make; refine wpList_mk _ rfl _ _ 26 rfl 4 (.bool false) 1 Try.underlying26 info4 rfl _ _ n rfl rfl rfl rfl (by omega) (by omega) ?_)
            intro w7 hown hx7 hsz7
            have HT : Tab wc w7 4 wc.heap.size n (fun j => .bool (memN 0 (pn P) j)) := ⟨hx7, hown.congr (fun j _ => by simp [memN]), Nat.le_refl _⟩
            have hsz : wc.heap.size < w7.heap.size := by omega
            clear hown hx7 hsz7
            go_wp2_with fail
            go_loopw [94] (fun s94 wr => ∃ k : Nat, k ≤ np ∧ s94 = .int .i64 k ∧ Tab wc wr 4 wc.heap.size n (fun j => .bool (memN k (pn P) j))) (fun i _ => np - (intOf i).toNat)
            case atStart => exact ⟨0, Nat.zero_le _, rfl, HT⟩
            case round =>
              clear HT
              obtain ⟨k, hk, rfl, hT⟩ := hrel
              by_cases hkl : k < np
              · obtain ⟨b, off, rfl, _, hc⟩ := (hp3.ext hT.ext (fun _ _ h => h)) k hkl
                have hpk := HPn.out k hkl
                obtain ⟨hcT, hfT, hputT⟩ := hT.at (pn P k) hpk
                have HT1 := (hputT (.bool true)).congr (f' := fun j => .bool (memN (k + 1) (pn P) j)) (fun j _ => upd_memN (pn P) k j)
                clear hputT
                dsimp only at hc
                generalize pn P k = pk at *
                go_wp2_with fail
                go_roundw
                case rel => exact ⟨k + 1, by omega, by go_num, HT1⟩
                case measure => simp [intOf]; omega
              · have ek : k = np := by omega
                subst k
                rename World => w8
                go_wp2_with (at_make; refine wpList_mk _ rfl _ _ 24 rfl 3 (.int .i64 0) 8 Try.underlying24 info3 rfl _ _ n rfl rfl rfl rfl (by omega) (by omega) ?_)
                intro w9 hown hx9 hsz9
                have HT2 : Tab w8 w9 3 w8.heap.size n (fun q => .int .i64 (ccF s 0 0 q : Int)) := ⟨hx9, hown.congr (fun j _ => by rw [ccF_zero]; rfl), Nat.le_refl _⟩
                clear hown hx9 hsz9
                have hncle := hPart.ncle
                go_wp2_with fail
                go_loopw [17] (fun s17 wr => ∃ c : Nat, c ≤ s.nc ∧ s17 = .int .i64 c ∧ Tab w8 wr 3 w8.heap.size n (fun q => .int .i64 (ccF s c 0 q : Int))) (fun i _ => s.nc - (intOf i).toNat)
                case atStart => exact ⟨0, Nat.zero_le _, rfl, HT2⟩
                case round =>
                  clear HT2
                  obtain ⟨c, hc, rfl, hT2⟩ := hrel
                  by_cases hcl : c < s.nc
                  · obtain ⟨bo, offo, rfl, _, hco⟩ := ((hO1.rd.ext hT.ext (fun _ _ h => h)).ext hT2.ext (fun _ _ h => h)) c hcl
                    have hpos := hPart.pos c hcl
                    have hszl := hPart.szle c
                    have hrow := (hO2 c hcl).rd.ext hT.ext (fun _ _ h => h)
                    dsimp only at hco
                    obtain ⟨ra, hra⟩ : ∃ ra, R c = ra := ⟨_, rfl⟩
                    rw [hra] at hco hrow
                    obtain ⟨br, offr, rfl, _, _⟩ := hrow 0 hpos
                    clear hra
                    have e0 : ((s.sz c : Int) == 0) = false := by rw [beq_eq_false_iff_ne]; omega
                    go_wp2_with fail
                    go_loopw [19] (fun s19 wr => ∃ i : Nat, i ≤ s.sz c ∧ s19 = .int .i64 i ∧ Tab w8 wr 3 w8.heap.size n (fun q => .int .i64 (ccF s c i q : Int))) (fun i _ => s.sz c - (intOf i).toNat)
                    case atStart => exact ⟨0, Nat.zero_le _, rfl, hT2⟩
                    case round =>
                      clear hT2
                      obtain ⟨i, hi, rfl, hT2⟩ := hrel
                      by_cases hil : i < s.sz c
                      · obtain ⟨_, _, eR, _, hcr⟩ := (hrow.ext hT2.ext (fun _ _ h => h)) i hil
                        obtain ⟨rfl, rfl⟩ : br = _ ∧ offr = _ := by simpa using eR
                        clear eR
                        obtain ⟨hen, hem⟩ := hPart.el c i hil
                        have hT1 := hT.later hT2.ext (fun k hk h => h)
                        obtain ⟨hcI, _, _⟩ := hT1.at (s.el c i) hen
                        simp only [hem] at hcI
                        obtain ⟨hcC, hfC, hputC⟩ := hT2.at (s.el c i) hen
                        have HT3 := (hputC (.int .i64 ((ccF s c i (s.el c i) + 1 : Nat) : Int))).congr (f' := fun q => .int .i64 (ccF s c (i + 1) q : Int)) (fun j _ => by rw [ccF_step (hPart.inj c) hil]; exact upd_map (fun n : Nat => Value.int .i64 (n : Int)) (ccF s c i) (s.el c i) _ j)
                        have hccb : ccF s c i (s.el c i) ≤ np + 1 := by
                          have := cnt_le c (fun c' => memN (s.sz c') (s.el c') (s.el c i))
                          unfold ccF; split <;> omega
                        have hdeg := hPart.deg c i
                        have hadj := fun j (hj : j < i) => hPart.adj c i j hj hil
                        have HDeg : Hid (0 < i → i < s.sz c → dg (s.el c i) ≤ dg (s.el c (i - 1))) := hdeg
                        have HAdj : Hid (∀ j, j < i → memB (d (s.el c i)) (A (s.el c i)) (s.el c j) = true) := hadj
                        have hdd := HD.out (s.el c i) hen
                        clear hdeg hadj hputC hem
                        dsimp only at hcr hcC
                        generalize s.el c i = r at *
                        generalize ccF s c i r = x at *
                        have HT3' : Tab w8 (wr.setCell ⟨w8.heap.size, r, none⟩ (.int .i64 ((x : Int) + 1))) 3 w8.heap.size n (fun q => .int .i64 (ccF s c (i + 1) q : Int)) := HT3
                        clear HT3
                        go_upto_region 35 with fail
                        generalize wr.setCell ⟨w8.heap.size, r, none⟩ (.int .i64 ((x : Int) + 1)) = w10 at HT3' ⊢
                        clear hcI hcC hfC hcr hT1 hT2 hccb
                        by_cases hi0 : 0 < i
                        · have hdg := HDeg.out hi0 hil
                          obtain ⟨hen1, _⟩ := hPart.el c (i - 1) (by omega)
                          obtain ⟨_, _, eR, _, hcr1⟩ := (hrow.ext HT3'.ext (fun _ _ h => h)) (i - 1) (by omega)
                          obtain ⟨rfl, rfl⟩ : br = _ ∧ offr = _ := by simpa using eR
                          clear eR
                          dsimp only at hcr1
                          generalize s.el c (i - 1) = r1 at *
                          have hd2' := (hd2.ext hT.ext (fun _ _ h => h)).ext HT3'.ext (fun _ _ h => h)
                          obtain ⟨bd, offd, rfl, _, hcd⟩ := hd2' r hen
                          obtain ⟨_, _, eD, _, hcd1⟩ := hd2' r1 hen1
                          obtain ⟨rfl, rfl⟩ : bd = _ ∧ offd = _ := by simpa using eD
                          clear eD hd2'
                          have gg : (0 : Int) < (i : Int) := by omega
                          have k1 : (r : Int) < (n : Int) := by omega
                          have k2 : (r1 : Int) < (n : Int) := by omega
                          have k3 : (i : Int) - 1 < (s.sz c : Int) := by omega
                          have k4 : (0 : Int) ≤ (i : Int) - 1 := by omega
                          have k5 : (0 : Int) ≤ (r : Int) := by omega
                          have k6 : (0 : Int) ≤ (r1 : Int) := by omega
                          have k7 : decide (dg r1 < dg r) = false := by simp; omega
                          go_quiet (fail)
                          go_wp2_with fail
                          go_loopw [21] (fun s21 wr => ∃ j : Nat, j ≤ i ∧ s21 = .int .i64 j ∧ Tab w8 wr 3 w8.heap.size n (fun q => .int .i64 (ccF s c (i + 1) q : Int))) (fun i' _ => i - (intOf i').toNat)
                          case atStart => exact ⟨0, Nat.zero_le _, rfl, HT3'.drewN _⟩
                          case round =>
                            clear HT3'
                            obtain ⟨j, hj, rfl, hT3⟩ := hrel
                            by_cases hji : j < i
                            · obtain ⟨_, _, eR, _, hcj⟩ := (hrow.ext hT3.ext (fun _ _ h => h)) j (by omega)
                              obtain ⟨rfl, rfl⟩ : br = _ ∧ offr = _ := by simpa using eR
                              clear eR
                              have hmem := HAdj.out j hji
                              have hinc := (hwf.row r hen).2
                              obtain ⟨ba, offa, rra, rrc, rfl, _, hca, hdm, hrr⟩ := ((ha0.ext hT.ext (fun _ _ h => h)).ext hT3.ext (fun _ _ h => h)) r hen
                              have hhas := fun (k : Nat) => has_any (fun _ => True) rra (d r) rrc (A r) (s.el c j : Int) (wr.drewN k) hdm hrr hinc
                              rw [hmem] at hhas
                              have HHas : Hid (∀ k, Calls Try.prog 35 #[.slice rra (d r) rrc, .int .i64 (s.el c j : Int)] (wr.drewN k) fun e w' => e = .returned (.bool true) ∧ w' = wr.drewN k) := hhas
                              clear hhas hmem hrr hinc
                              dsimp only at hcj
                              generalize s.el c j = rj at *
                              have g1 : (r : Int) < (n : Int) := by omega
                              have g2 : (0 : Int) ≤ (r : Int) := by omega
                              have g3 : (j : Int) < (s.sz c : Int) := by omega
                              have g4 : (0 : Int) ≤ (j : Int) := by omega
                              go_upto_region 40 with fail
                              go_quiet ((go_at_call 35; exact Calls.quiet_of_same (HHas.out _)))
                              go_wp2_with fail
                              go_roundw
                              case rel => exact ⟨j + 1, by omega, by go_num, hT3.drewN _⟩
                              case measure => simp [intOf]; omega
                            · have ej : j = i := by omega
                              subst j
                              go_wp2_with fail
                              go_roundw
                              case rel => exact ⟨i + 1, by omega, by go_num, hT3⟩
                              case measure => simp [intOf]; omega
                        · have gg : decide ((0 : Int) < (i : Int)) = false := by simp; omega
                          go_quiet (fail)
                          go_wp2_with fail
                          go_loopw [21] (fun s21 wr => ∃ j : Nat, j ≤ i ∧ s21 = .int .i64 j ∧ Tab w8 wr 3 w8.heap.size n (fun q => .int .i64 (ccF s c (i + 1) q : Int))) (fun i' _ => i - (intOf i').toNat)
                          case atStart => exact ⟨0, Nat.zero_le _, rfl, HT3'.drewN _⟩
                          case round =>
                            clear HT3'
                            obtain ⟨j, hj, rfl, hT3⟩ := hrel
                            by_cases hji : j < i
                            · exact absurd hji (by omega)
                            · have ej : j = i := by omega
                              subst j
                              go_wp2_with fail
                              go_roundw
                              case rel => exact ⟨i + 1, by omega, by go_num, hT3⟩
                              case measure => simp [intOf]; omega
                      · have ei : i = s.sz c := by omega
                        subst i
                        rw [ccF_next] at hT2
                        go_wp2_with fail
                        go_roundw
                        case rel => exact ⟨c + 1, by omega, by go_num, hT2⟩
                        case measure => simp [intOf]; omega
                  · have ec : c = s.nc := by omega
                    subst c
                    have hone := hPart.one
                    have hcc : ∀ k, k < np → ccF s s.nc 0 (pn P k) = 1 := fun k hk => by unfold ccF; rw [hone k hk]; simp [memN]
                    have HCC : Hid (∀ k, k < np → ccF s s.nc 0 (pn P k) = 1) := hcc
                    clear hcc hone
                    rename World => w11
                    go_wp2_with fail
                    go_loop [181] (fun s181 => ∃ k : Nat, k ≤ np ∧ s181 = .int .i64 k) (fun i => np - (intOf i).toNat)
                    case atStart => exact ⟨0, Nat.zero_le _, rfl⟩
                    case round =>
                      obtain ⟨k, hk, rfl⟩ := hrel
                      by_cases hkl : k < np
                      · obtain ⟨b, off, rfl, _, hck⟩ := ((hp3.ext hT.ext (fun _ _ h => h)).ext hT2.ext (fun _ _ h => h)) k hkl
                        have hpk := HPn.out k hkl
                        obtain ⟨hcT, _, _⟩ := hT2.at (pn P k) hpk
                        simp only [HCC.out k hkl] at hcT
                        dsimp only at hck
                        generalize pn P k = pk at *
                        go_wp2_with fail
                        go_round
                        case rel => exact ⟨k + 1, by omega, by go_num⟩
                        case measure => simp [intOf]; omega
                      · go_wp2_with fail
                        go_ret
                        exact ⟨rfl, (hxW.trans hT.ext (fun _ _ h => h)).trans hT2.ext (fun _ _ h => h)⟩
          · exact goodMove (.tmp 0) (.inl rfl) (fun m a w h hm ht => h.mv 0 _ (by omega) (by omega) (by omega) (by omega) (by omega) (by omega) (fun _ => (ht.out 0 (by kernel_rfl)).trans rfl) (fun e => by omega) (fun e => by omega) (fun e => by omega) (fun e => by omega))
          · refine goodCall 13 [.tmp 76] _ Try.f13 rfl Try.func13 (by kernel_rfl) (by kernel_rfl) (fun m a w h hm ht => ?_)
            have e : a.eval (.tmp 76) = _ := h.m0 _ (ht.on 0 76 (by kernel_rfl) (by kernel_rfl))
            simp only [List.map_cons, List.map_nil, e]
            exact h.call1 hG hm
          · exact goodMove (.tmp 1) (.inl rfl) (fun m a w h hm ht => h.mv 2 _ (by omega) (by omega) (by omega) (by omega) (by omega) (by omega) (fun e => by omega) (fun _ => (ht.out 1 (by kernel_rfl)).trans rfl) (fun e => by omega) (fun e => by omega) (fun e => by omega))
          · refine goodCall 14 [.tmp 78] _ Try.f14 rfl Try.func14 (by kernel_rfl) (by kernel_rfl) (fun m a w h hm ht => ?_)
            have e : a.eval (.tmp 78) = _ := h.m2 _ (ht.on 2 78 (by kernel_rfl) (by kernel_rfl))
            simp only [List.map_cons, List.map_nil, e]
            exact h.call3 hG hm
          · exact goodMove (.tmp 2) (.inl rfl) (fun m a w h hm ht => h.mv 4 _ (by omega) (by omega) (by omega) (by omega) (by omega) (by omega) (fun e => by omega) (fun e => by omega) (fun _ => (ht.out 2 (by kernel_rfl)).trans rfl) (fun e => by omega) (fun e => by omega))
          · refine goodCall 15 [.tmp 80] _ Try.f15 rfl Try.func15 (by kernel_rfl) (by kernel_rfl) (fun m a w h hm ht => ?_)
            have e : a.eval (.tmp 80) = _ := h.m4 _ (ht.on 4 80 (by kernel_rfl) (by kernel_rfl))
            simp only [List.map_cons, List.map_nil, e]
            exact h.call5 hG hm
          · exact goodMove (.tmp 9) (.inl rfl) (fun m a w h hm ht => h.mv 6 _ (by omega) (by omega) (by omega) (by omega) (by omega) (by omega) (fun e => by omega) (fun e => by omega) (fun e => by omega) (fun _ => (ht.out 9 (by kernel_rfl)).trans rfl) (fun e => by omega))
          · refine goodMake 24 (.tmp 82) (.tmp 82) rfl (fun m a w h hm ht => ?_)
            have e : a.eval (.tmp 82) = _ := h.m6 _ (ht.on 6 82 (by kernel_rfl) (by kernel_rfl))
            rw [e]
            exact h.make7 (by omega) hm
          · exact goodMove (.tmp 3) (.inl rfl) (fun m a w h hm ht => h.mv 8 _ (by omega) (by omega) (by omega) (by omega) (by omega) (by omega) (fun e => by omega) (fun e => by omega) (fun e => by omega) (fun e => by omega) (fun _ => (ht.out 3 (by kernel_rfl)).trans rfl))
          · refine goodCall 15 [.tmp 84] _ Try.f15 rfl Try.func15 (by kernel_rfl) (by kernel_rfl) (fun m a w h hm ht => ?_)
            have e : a.eval (.tmp 84) = _ := h.m8 _ (ht.on 8 84 (by kernel_rfl) (by kernel_rfl))
            simp only [List.map_cons, List.map_nil, e]
            exact h.call9 hG hm
          · refine goodCall 30 [.tmp 77, .tmp 79, .tmp 81, .const (.int .i64 0), .tmp 83, .tmp 85] _ Try.f30 rfl Try.func30 (by kernel_rfl) (by kernel_rfl) (fun m a w h hm ht => ?_)
            exact h.call10 hwf HPl.out HD.out (by omega) (by omega) hm (ht.on 1 77 (by kernel_rfl) (by kernel_rfl)) (ht.on 3 79 (by kernel_rfl) (by kernel_rfl)) (ht.on 5 81 (by kernel_rfl) (by kernel_rfl)) (ht.on 7 83 (by kernel_rfl) (by kernel_rfl)) (ht.on 9 85 (by kernel_rfl) (by kernel_rfl))
          · refine goodMove (.tmp 86) (.inl rfl) (fun m a w h hm ht => ?_)
            have e10 := ht.on 10 86 (by kernel_rfl) (by kernel_rfl)
            obtain ⟨t', O, aC, capC, b, hp⟩ := h.out e10 (by omega)
            exact h.put hp 11 _ (by omega) (fun _ => by have := hp.m10; rw [e10] at this; injection this) (fun e => by omega) (fun e => by omega) (fun e => by omega)
          · refine goodExtract (.tmp 75) 0 rfl (fun m a w h hm ht => ?_)
            have e11 := ht.on 11 75 (by kernel_rfl) (by kernel_rfl)
            obtain ⟨t', O, aC, capC, b, hp⟩ := h.out e11 (by omega)
            exact ⟨_, _, hp.m11 _ e11, rfl, h.put hp 12 _ (by omega) (fun e => by omega) (fun _ => rfl) (fun e => by omega) (fun e => by omega)⟩
          · refine goodExtract (.tmp 75) 1 rfl (fun m a w h hm ht => ?_)
            have e11 := ht.on 11 75 (by kernel_rfl) (by kernel_rfl)
            obtain ⟨t', O, aC, capC, b, hp⟩ := h.out e11 (by omega)
            exact ⟨_, _, hp.m11 _ e11, rfl, h.put hp 13 _ (by omega) (fun e => by omega) (fun e => by omega) (fun _ => rfl) (fun e => by omega)⟩
          · refine goodExtract (.tmp 75) 2 rfl (fun m a w h hm ht => ?_)
            have e11 := ht.on 11 75 (by kernel_rfl) (by kernel_rfl)
            obtain ⟨t', O, aC, capC, b, hp⟩ := h.out e11 (by omega)
            exact ⟨_, _, hp.m11 _ e11, rfl, h.put hp 14 _ (by omega) (fun e => by omega) (fun e => by omega) (fun e => by omega) (fun _ => rfl)⟩
          · refine goodMove (.tmp 87) (.inr rfl) (fun m a w h hm ht => ?_)
            have e1 := ht.on 12 87 (by kernel_rfl) (by kernel_rfl)
            obtain ⟨t', O, aC, capC, b, hp⟩ := h.out e1 (by omega)
            exact h.put hp 15 _ (by omega) (fun e => by omega) (fun _ => hp.m12 _ e1) (fun e => by omega) (fun e => by omega)
          · refine goodMove (.tmp 88) (.inr rfl) (fun m a w h hm ht => ?_)
            have e1 := ht.on 13 88 (by kernel_rfl) (by kernel_rfl)
            obtain ⟨t', O, aC, capC, b, hp⟩ := h.out e1 (by omega)
            exact h.put hp 16 _ (by omega) (fun e => by omega) (fun e => by omega) (fun _ => hp.m13 _ e1) (fun e => by omega)
          · refine goodMove (.tmp 89) (.inr rfl) (fun m a w h hm ht => ?_)
            have e1 := ht.on 14 89 (by kernel_rfl) (by kernel_rfl)
            obtain ⟨t', O, aC, capC, b, hp⟩ := h.out e1 (by omega)
            exact h.put hp 17 _ (by omega) (fun e => by omega) (fun e => by omega) (fun e => by omega) (fun _ => hp.m14 _ e1)
      · clear hab
        go_wp2_with fail
        go_ret
        exact ⟨rfl, Ext.refl _ _⟩
    · by_cases hl1 : ns ≤ 1048576
      · have b1 : decide ((1048576 : Int) < (ns : Int)) = false := by simp; omega
        by_cases hl2 : nd ≤ 131072
        · have b2 : decide ((131072 : Int) < (nd : Int)) = false := by simp; omega
          have b3 : decide ((4096 : Int) < (np : Int)) = true := by simp; omega
          go_wp2_with fail
          go_ret
          exact ⟨rfl, Ext.refl _ _⟩
        · have b2 : decide ((131072 : Int) < (nd : Int)) = true := by simp; omega
          go_wp2_with fail
          go_ret
          exact ⟨rfl, Ext.refl _ _⟩
      · have b1 : decide ((1048576 : Int) < (ns : Int)) = true := by simp; omega
        go_wp2_with fail
        go_ret
        exact ⟨rfl, Ext.refl _ _⟩
end Go.Proofs.Qxb6601557a
