/-
  FnCliquesMatchesGreedyModel: the walk. By an AI agent.
-/
import Derived.Test.Qxb6601557aMod
import Derived.Test.Qxb6601557aBytes
import Derived.Test.Qxb6601557aAdjBytes
import Derived.Test.Qxb6601557aFrame
import Derived.Deep.RegionWith
import Derived.Deep.CutRange
namespace Go.Proofs.Qxb6601557a
set_option linter.unusedVariables false
open Go.RowKit

set_option maxHeartbeats 16000000 in
set_option maxRecDepth 100000 in
theorem law5 (W : World) (S : Nat → Prop) (a0 a1 a2 a4 a6 : Option Addr) (n c0 ns c1 nd c2 nsc c4 np c6 : Nat) (d : Nat → Nat) (A : Nat → Nat → Int) (st dg sc P : Nat → Int) (steps : Int)
    (h0 : n ≤ 17592186044416) (h1 : ns ≤ 140737488355328) (h2 : nd ≤ 17592186044416) (h4 : nsc ≤ 17592186044416) (h6 : np ≤ 17592186044416)
    (r0 : RdAdj S W a0 n d A) (r1 : Rd S W a1 ns (fun j => .int .i8 (st j))) (r2 : Rd S W a2 nd (fun j => .int .i64 (dg j))) (r4 : Rd S W a4 nsc (fun j => .int .i64 (sc j))) (r6 : Rd S W a6 np (fun j => .int .i64 (P j))) :
    Calls Try.prog 5 #[.slice a0 n c0, .slice a1 ns c1, .slice a2 nd c2, .int .i64 steps, .slice a4 nsc c4, .slice a6 np c6] W (Fine W) := by
  go_enter Try.func5, Try.ntmps5
  go_wp2_with fail
  refine (bytes28_any S a0 n c0 d A W (by omega) r0 a1 ns c1 a2 nd c2 steps a4 nsc c4 a6 np c6 (by omega) (by omega) (by omega) (by omega)).mono ?_
  rintro e w' ⟨⟨r, rfl⟩, hw⟩
  subst w'
  cases r with
  | false =>
    go_wp2_with fail
    go_ret
    exact ⟨rfl, Ext.refl _ _⟩
  | true =>
    by_cases hlen : ns ≤ 1048576 ∧ nd ≤ 131072 ∧ nsc ≤ 131072 ∧ np ≤ 4096
    · obtain ⟨hl1, hl2, hl4, hl6⟩ := hlen
      have b1 : decide ((1048576 : Int) < (ns : Int)) = false := by simp; omega
      have b2 : decide ((131072 : Int) < (nd : Int)) = false := by simp; omega
      have b4 : decide ((131072 : Int) < (nsc : Int)) = false := by simp; omega
      have b6 : decide ((4096 : Int) < (np : Int)) = false := by simp; omega
      go_wp2_with fail
      refine (adjBytes_any S a0 n c0 d A W (by omega) r0).mono ?_
      rintro e w' ⟨t, rfl, hab, hw⟩
      subst w'
      have hlo := hab.lo
      have hhi := hab.hi
      by_cases hsum : t + ns + 8 * nd + 8 * nsc + 8 * np ≤ 1048576
      · obtain ⟨hn, hd⟩ := hab.ok (by omega)
        have HD : Hid (∀ p, p < n → d p ≤ 131072) := hd
        clear hd hab
        go_wp2_with fail
        refine (places_any (fun _ => True) a0 a1 a2 a4 a6 n c0 ns c1 nd c2 nsc c4 np c6 d A st dg sc P W (by omega) (by omega) (by omega) (by omega) (by omega) (r0.mono (fun _ _ => trivial)) (r1.mono (fun _ _ => trivial)) (r2.mono (fun _ _ => trivial)) (r4.mono (fun _ _ => trivial)) (r6.mono (fun _ _ => trivial))).mono ?_
        rintro e w2 ⟨⟨r, rfl, hprem⟩, hx, hpos⟩
        cases r with
        | false =>
          go_wp2_with fail
          go_ret
          exact ⟨rfl, hx⟩
        | true =>
          have hp := hprem rfl
          have hW2 := hpos rfl
          clear hprem hpos
          obtain ⟨e1, e2, e3, hwf, hsc0, hpl⟩ := hp
          subst ns
          subst nd
          subst nsc
          have HPl : Hid (∀ k, k < np → PlaceOk n st dg P k) := hpl
          clear hpl
          have hpn : ∀ k, k < np → pn P k < n := fun k hk => by have := pn_eq (HPl.out k hk); have := (HPl.out k hk).hi; omega
          have HPn : Hid (∀ k, k < np → pn P k < n) := hpn
          have hd0 : ∀ i, i < np → 0 ≤ dg (pn P i) := fun i hi => (HPl.out i hi).dlo
          have HPd : Hid (∀ i, i < np → pn P i < n ∧ 0 ≤ dg (pn P i)) := fun i hi => ⟨hpn i hi, hd0 i hi⟩
          have HSc0 : Hid (∀ j, j < n → sc j = 0) := hsc0
          have HD0 : Hid (∀ i, i < np → 0 ≤ dg (pn P i)) := hd0
          clear hpn hsc0 hd0
          have s0 : RdAdj (fun _ => True) w2 a0 n d A := (r0.ext hx (fun _ _ h => h)).mono (fun _ _ => trivial)
          have s1 : Rd (fun _ => True) w2 a1 n (fun j => .int .i8 (st j)) := (r1.ext hx (fun _ _ h => h)).mono (fun _ _ => trivial)
          have s2 : Rd (fun _ => True) w2 a2 n (fun j => .int .i64 (dg j)) := (r2.ext hx (fun _ _ h => h)).mono (fun _ _ => trivial)
          have s4 : Rd (fun _ => True) w2 a4 n (fun j => .int .i64 0) := ((r4.ext hx (fun _ _ h => h)).mono (fun _ _ => trivial)).congr (fun j hj => by rw [HSc0.out j hj])
          have s6 : Rd (fun _ => True) w2 a6 np (fun j => .int .i64 (pn P j : Int)) := ((r6.ext hx (fun _ _ h => h)).mono (fun _ _ => trivial)).congr (fun j hj => by rw [pn_eq (HPl.out j hj)])
          clear r0 r1 r2 r4 r6 b1 b2 b4 b6
          go_wp2_with fail
          refine (copyAdj_any (fun _ => True) a0 n c0 d A w2 (by omega) (fun p hp => by have := HD.out p hp; omega) s0 s0.nil0).mono ?_
          rintro e w3 ⟨b0, rfl, hc⟩
          replace hx := hx.trans hc.ext (fun _ _ h => h)
          replace s1 := s1.ext hc.ext (fun _ _ h => h)
          replace s2 := s2.ext hc.ext (fun _ _ h => h)
          replace s4 := s4.ext hc.ext (fun _ _ h => h)
          replace s6 := s6.ext hc.ext (fun _ _ h => h)
          have q0 := hc.own.rd.mono (T := fun _ => True) (fun _ _ => trivial)
          replace hW2 := Nat.lt_of_lt_of_le hW2 hc.ext.size
          clear hc s0
          go_wp2_with fail
          refine (copyInt8s_any (fun _ => True) a1 n c1 st w3 (by omega) s1 s1.nil0).mono ?_
          rintro e w4 ⟨b1, rfl, hc⟩
          replace hx := hx.trans hc.ext (fun _ _ h => h)
          replace s2 := s2.ext hc.ext (fun _ _ h => h)
          replace s4 := s4.ext hc.ext (fun _ _ h => h)
          replace s6 := s6.ext hc.ext (fun _ _ h => h)
          replace q0 := q0.ext hc.ext (fun _ _ h => h)
          have q1 := hc.own.rd.mono (T := fun _ => True) (fun _ _ => trivial)
          replace hW2 := Nat.lt_of_lt_of_le hW2 hc.ext.size
          clear hc s1
          go_wp2_with fail
          refine (copyInts_any (fun _ => True) a2 n c2 dg w4 (by omega) s2 s2.nil0).mono ?_
          rintro e w5 ⟨b2, rfl, hc⟩
          replace hx := hx.trans hc.ext (fun _ _ h => h)
          replace s4 := s4.ext hc.ext (fun _ _ h => h)
          replace s6 := s6.ext hc.ext (fun _ _ h => h)
          replace q0 := q0.ext hc.ext (fun _ _ h => h)
          replace q1 := q1.ext hc.ext (fun _ _ h => h)
          have q2 := hc.own.rd.mono (T := fun _ => True) (fun _ _ => trivial)
          replace hW2 := Nat.lt_of_lt_of_le hW2 hc.ext.size
          clear hc s2
          go_wp2_with fail
          refine (copyInts_any (fun _ => True) a4 n c4 (fun _ => 0) w5 (by omega) s4 s4.nil0).mono ?_
          rintro e w6 ⟨b4, rfl, hc⟩
          replace hx := hx.trans hc.ext (fun _ _ h => h)
          replace s6 := s6.ext hc.ext (fun _ _ h => h)
          replace q0 := q0.ext hc.ext (fun _ _ h => h)
          replace q1 := q1.ext hc.ext (fun _ _ h => h)
          replace q2 := q2.ext hc.ext (fun _ _ h => h)
          have q4 := hc.own.rd.mono (T := fun _ => True) (fun _ _ => trivial)
          replace hW2 := Nat.lt_of_lt_of_le hW2 hc.ext.size
          clear hc s4
          go_wp2_with fail
          refine (copyInts_any (fun _ => True) a6 np c6 (fun j => (pn P j : Int)) w6 (by omega) s6 s6.nil0).mono ?_
          rintro e w7 ⟨b6, rfl, hc⟩
          replace hx := hx.trans hc.ext (fun _ _ h => h)
          replace q0 := q0.ext hc.ext (fun _ _ h => h)
          replace q1 := q1.ext hc.ext (fun _ _ h => h)
          replace q2 := q2.ext hc.ext (fun _ _ h => h)
          replace q4 := q4.ext hc.ext (fun _ _ h => h)
          have q6 := hc.own.rd.mono (T := fun _ => True) (fun _ _ => trivial)
          replace hW2 := Nat.lt_of_lt_of_le hW2 hc.ext.size
          clear hc s6
          go_wp2_with fail
          refine (copyAdj_any (fun _ => True) b0 n n d A w7 (by omega) (fun p hp => by have := HD.out p hp; omega) q0 q0.nil0).mono ?_
          rintro e w8 ⟨e0, rfl, hc⟩
          replace hx := hx.trans hc.ext (fun _ _ h => h)
          replace q0 := q0.ext hc.ext (fun _ _ h => h)
          replace q1 := q1.ext hc.ext (fun _ _ h => h)
          replace q2 := q2.ext hc.ext (fun _ _ h => h)
          replace q4 := q4.ext hc.ext (fun _ _ h => h)
          replace q6 := q6.ext hc.ext (fun _ _ h => h)
          have z0 := hc.own.rd.mono (T := fun _ => True) (fun _ _ => trivial)
          replace hW2 := Nat.lt_of_lt_of_le hW2 hc.ext.size
          clear hc
          go_wp2_with fail
          refine (copyInt8s_any (fun _ => True) b1 n n st w8 (by omega) q1 q1.nil0).mono ?_
          rintro e w9 ⟨e1, rfl, hc⟩
          replace hx := hx.trans hc.ext (fun _ _ h => h)
          replace q0 := q0.ext hc.ext (fun _ _ h => h)
          replace q1 := q1.ext hc.ext (fun _ _ h => h)
          replace q2 := q2.ext hc.ext (fun _ _ h => h)
          replace q4 := q4.ext hc.ext (fun _ _ h => h)
          replace q6 := q6.ext hc.ext (fun _ _ h => h)
          replace z0 := z0.ext hc.ext (fun _ _ h => h)
          have z1 := hc.own.rd.mono (T := fun _ => True) (fun _ _ => trivial)
          replace hW2 := Nat.lt_of_lt_of_le hW2 hc.ext.size
          clear hc
          go_wp2_with fail
          refine (copyInts_any (fun _ => True) b2 n n dg w9 (by omega) q2 q2.nil0).mono ?_
          rintro e w10 ⟨e2, rfl, hc⟩
          replace hx := hx.trans hc.ext (fun _ _ h => h)
          replace q0 := q0.ext hc.ext (fun _ _ h => h)
          replace q1 := q1.ext hc.ext (fun _ _ h => h)
          replace q2 := q2.ext hc.ext (fun _ _ h => h)
          replace q4 := q4.ext hc.ext (fun _ _ h => h)
          replace q6 := q6.ext hc.ext (fun _ _ h => h)
          replace z0 := z0.ext hc.ext (fun _ _ h => h)
          replace z1 := z1.ext hc.ext (fun _ _ h => h)
          have z2 := hc.own.rd.mono (T := fun _ => True) (fun _ _ => trivial)
          replace hW2 := Nat.lt_of_lt_of_le hW2 hc.ext.size
          clear hc
          go_wp2_with fail
          refine (copyInts_any (fun _ => True) b4 n n (fun _ => 0) w10 (by omega) q4 q4.nil0).mono ?_
          rintro e w11 ⟨asc, rfl, hc⟩
          replace hx := hx.trans hc.ext (fun _ _ h => h)
          obtain ⟨bsc, hsc, hbl, hbW, hb0⟩ := pickSc hc hW2
          have hbn : 0 < np → bsc = w10.heap.size := fun h => hb0 (by have := HPn.out 0 h; omega)
          replace q0 := (q0.away hb0).ext hc.ext (fun _ _ h => h)
          replace q1 := (q1.away hb0).ext hc.ext (fun _ _ h => h)
          replace q2 := (q2.away hb0).ext hc.ext (fun _ _ h => h)
          replace q6 := (q6.away hbn).ext hc.ext (fun _ _ h => h)
          replace z0 := (z0.away hb0).ext hc.ext (fun _ _ h => h)
          replace z1 := (z1.away hb0).ext hc.ext (fun _ _ h => h)
          replace z2 := (z2.away hb0).ext hc.ext (fun _ _ h => h)
          clear hc q4
          go_wp2_with fail
          refine (copyInts_any (fun k => k ≠ bsc) b6 np np (fun j => (pn P j : Int)) w11 (by omega) q6 q6.nil0).mono ?_
          rintro e w12 ⟨e6, rfl, hc⟩
          replace hx := hx.trans hc.ext (fun _ _ h => h)
          replace q0 := q0.ext hc.ext (fun _ _ h => h)
          replace q1 := q1.ext hc.ext (fun _ _ h => h)
          replace q2 := q2.ext hc.ext (fun _ _ h => h)
          replace q6 := q6.ext hc.ext (fun _ _ h => h)
          replace z0 := z0.ext hc.ext (fun _ _ h => h)
          replace z1 := z1.ext hc.ext (fun _ _ h => h)
          replace z2 := z2.ext hc.ext (fun _ _ h => h)
          replace hsc := hsc.ext hc.ext (fun _ _ h => h)
          have z6 := hc.own.rd.mono (T := fun k => k ≠ bsc) (fun k hk => by omega)
          replace hbl := Nat.lt_of_lt_of_le hbl hc.ext.size
          clear hc
          go_wp2_with fail
          have hZ : ZIn w12 bsc (fun k => k ≠ bsc) n d (nb A) st dg np (pn P) e0 e1 e2 asc e6 n := by
            refine ⟨z0.congr (fun p hp i hi => hwf.nb hp hi), z1, z2, hsc, z6, fun k hk => hk, hbl, fun i hi => ?_, fun i j hi hj e => ?_, hwf.gr HD.out⟩
            · have hk := HPl.out i hi
              exact ⟨HPn.out i hi, hk.dlo, hk.dhi, hk.free⟩
            · have e1 := pn_eq (HPl.out i hi)
              have e2 := pn_eq (HPl.out j hj)
              rcases Nat.lt_trichotomy i j with hl | hl | hl
              · exact absurd (by omega) ((HPl.out j hj).new i hl)
              · exact hl
              · exact absurd (by omega) ((HPl.out i hi).new j hl)
          refine (zzcliques_any w12 bsc _ n d (nb A) st dg np (pn P) e0 e1 e2 asc e6 n n n n np steps hZ (by omega) (by omega)).mono ?_
          rintro e w13 ⟨t, O, aG, capG, rfl, hO⟩
          clear hZ z0 z1 z2 z6 hsc
          have z0 := (q0.congr (fun p hp i hi => hwf.nb hp hi)).ext hO.ext (fun _ h => h)
          have z2 := q2.ext hO.ext (fun _ h => h)
          have z6 := q6.ext hO.ext (fun _ h => h)
          have hbl13 := Nat.lt_of_lt_of_le hbl hO.ext.size
          clear q0 q1 q2 q6
          -- REST
          have hPart := partOk hwf HPl.out hO.ord
          have hTop := hO.ord.top
          have hOn : ∀ l, l < np → O l < n := fun l hl => hO.ord.lt HPl.out hl
          have HOn : Hid (∀ l, l < np → O l < n) := hOn
          have hinv : ∀ m, m ≤ np → CInv d (nb A) O m (runC d (nb A) O m) (whC d (nb A) O m) := by
            refine cinv_run d (nb A) O np (hO.ord.inj ?_)
            intro i j hi hj e
            have e1 := pn_eq (HPl.out i hi)
            have e2 := pn_eq (HPl.out j hj)
            rcases Nat.lt_trichotomy i j with hl | hl | hl
            · exact absurd (by omega) ((HPl.out j hj).new i hl)
            · exact hl
            · exact absurd (by omega) ((HPl.out i hi).new j hl)
          have HSzn : Hid (∀ m, m ≤ np → ∀ c, (runC d (nb A) O m).sz c ≤ n) := by
            intro m hm c
            refine (hinv m hm).sz_le (fun i j hi hj e => ?_) (fun k hk => hOn k (by omega)) c
            refine hO.ord.inj (fun i j hi hj e => ?_) i j (by omega) (by omega) e
            have e1 := pn_eq (HPl.out i hi)
            have e2 := pn_eq (HPl.out j hj)
            rcases Nat.lt_trichotomy i j with hl | hl | hl
            · exact absurd (by omega) ((HPl.out j hj).new i hl)
            · exact hl
            · exact absurd (by omega) ((HPl.out i hi).new j hl)
          have HInv : Hid (∀ m, m ≤ np → CInv d (nb A) O m (runC d (nb A) O m) (whC d (nb A) O m)) := hinv
          have hsumD : sumD d O np = ((sumN np (fun i => d (pn P i)) : Nat) : Int) := sumD_perm hO.ord
          obtain ⟨RG, cpG, hG1, hG2⟩ := hO.rows
          have hGn : aG = none ↔ np = 0 := by
            have hone := hPart.one
            constructor
            · intro e
              have h0 : (runC d (nb A) O np).nc = 0 := hG1.none_zero e
              rcases Nat.eq_zero_or_pos np with h | h
              · exact h
              · have := hone 0 h; rw [h0] at this; simp [cnt] at this
            · intro e
              exact hO.nil (by subst e; rfl)
          have HGn : Hid (aG = none ↔ np = 0) := hGn
          have hx12 := hx
          have hKK : ∀ i i', i < np → i' < np → (keyOf t dg (pn P) i < keyOf t dg (pn P) i' ↔ dg (pn P i') < dg (pn P i)) := by
            intro i i' hi hi'
            have t1 := hTop.le i hi
            have t2 := hTop.le i' hi'
            have d1 := HD0.out i hi
            have d2 := HD0.out i' hi'
            unfold keyOf
            omega
          rw [hsumD]
          obtain ⟨s0, hs0⟩ : ∃ s0 : Int, wrap64 (steps + (2 * (np : Int) + (t : Int)) + ((sumN np (fun i => d (pn P i)) : Nat) : Int)) = s0 := ⟨_, rfl⟩
          rw [hs0]
          have HS0 : Hid (wrap64 (steps + (2 * (np : Int) + (t : Int)) + ((sumN np (fun i => d (pn P i)) : Nat) : Int)) = s0) := hs0
          have hOscR := hO.sc.rd
          have hOx := hO.ext
          have hOrd := hO.ord
          have HOrd : Hid (∀ i, i < np → O (rk np (keyOf t dg (pn P)) i) = pn P i) := hOrd.at_
          clear hs0 hsumD hOn hinv hGn hO hx hOrd
          go_wp2_with fail
          refine (byDeg_any w13 (fun k => k ≠ bsc) (fun k => k ≠ bsc) n np (pn P) (keyOf t dg (pn P)) dg b6 b2 np n z6 z2 HPn.out (by omega) (by omega) hKK).mono ?_
          rintro e w14 ⟨Q, rfl, hBD⟩
          have hQO : ∀ l, l < np → Q l = O l := fun l hl => by
            obtain ⟨i, hi, e⟩ := rk_onto (K := keyOf t dg (pn P)) hl
            rw [← e, hBD.laid i hi, HOrd.out i hi]
          have hq := hBD.tab.own.rd.congr (g := fun l => .int .i64 (O l : Int)) (fun l hl => by rw [hQO l hl])
          have hx14 := hBD.tab.ext
          have hsz14 : w13.heap.size < w14.heap.size := hBD.tab.own.head_lt
          clear hBD hQO hKK HOrd
          obtain ⟨gq, hgq⟩ : ∃ gq, w13.heap.size = gq := ⟨_, rfl⟩
          rw [hgq] at hq ⊢
          go_wp2_with (at_make; refine wpList_mk _ rfl _ _ 26 rfl 4 (.bool false) 1 Try.underlying26 info4 rfl _ _ n rfl rfl rfl rfl (by omega) (by omega) ?_)
          intro wm hown hxm hszm
          obtain ⟨g, hg⟩ : ∃ g, w14.heap.size = g := ⟨_, rfl⟩
          have lt : ∀ k, k < w13.heap.size → k ≠ bsc → k ≠ g := fun k hk _ => by omega
          have hx1m : Ext (fun _ => False) w13 wm := hx14.trans hxm (fun _ _ h => h)
          have y0 := (z0.mono_lt lt).ext hx1m (fun _ _ h => h)
          have y2 := (z2.mono_lt lt).ext hx1m (fun _ _ h => h)
          have y6 := (z6.mono_lt lt).ext hx1m (fun _ _ h => h)
          have ysc := (hOscR.mono_lt (T := fun k => k ≠ g) (fun k hk _ => by omega)).ext hx1m (fun _ _ h => h)
          have yq := (hq.mono_lt (T := fun k => k ≠ g) (fun k hk _ => by omega)).ext hxm (fun _ _ h => h)
          have yG1 := (hG1.rd.mono_lt (T := fun k => k ≠ g) (fun k hk _ => by omega)).ext hx1m (fun _ _ h => h)
          have yG2 := fun c hc => ((hG2 c hc).rd.mono_lt (T := fun k => k ≠ g) (fun k hk _ => by omega)).ext hx1m (fun _ _ h => h)
          have hxW : Ext (fun _ => False) W wm := ((hx12.trans hOx (fun i hi e => by omega)).trans hx14 (fun _ _ h => h)).trans hxm (fun _ _ h => h)
          have hgW : W.heap.size ≤ g := by have := hx12.size; have := hOx.size; omega
          have hMS : ModS wm wm g n (fun _ => false) (fun _ => 0) none (runC d (nb A) O 0).nc 0 (fun _ => none) (runC d (nb A) O 0).sz (fun _ => 0) (runC d (nb A) O 0).el :=
            ⟨⟨Ext.refl _ _, by rw [← hg]; exact hown⟩, ⟨Own.nil, fun c hc => absurd hc (Nat.not_lt_zero c), Own.nil, Own.nil, Nat.le_refl _⟩, by omega⟩
          have hgr := hwf.gr HD.out
          rw [hg]
          clear hown hxm hszm z0 z2 z6 hx12 hg hOscR hOx hG1 hG2 hx14 hx1m hsz14 lt hq
          go_wp2_with fail
          -- LOOP1
          go_loopw [19, 119] (fun s19 s119 wr => ∃ (m : Nat) (tag : Nat → Nat) (aC : Option Addr) (capC : Nat) (R : Nat → Option Addr) (cp : Nat → Nat), m ≤ np ∧ s119 = .int .i64 m ∧ s19 = .slice aC (runC d (nb A) O m).nc capC ∧ ModS wm wr g n (fun _ => false) tag aC (runC d (nb A) O m).nc capC R (runC d (nb A) O m).sz cp (runC d (nb A) O m).el) (fun _ i _ => np - (intOf i).toNat)
          case atStart => exact ⟨0, _, _, _, _, _, Nat.zero_le _, rfl, rfl, hMS⟩
          case round =>
            clear hMS
            obtain ⟨m, tag, aC, capC, R, cp, hm, rfl, rfl, hS⟩ := hrel
            by_cases hml : m < np
            · -- ONE PLACE
              have hI := HInv.out m (by omega)
              have hpn := HOn.out m hml
              have hstep : runC d (nb A) O (m + 1) = putC (runC d (nb A) O m) (joinOf d (nb A) (runC d (nb A) O m) (O m)) (O m) := rfl
              have HStep : Hid (runC d (nb A) O (m + 1) = putC (runC d (nb A) O m) (joinOf d (nb A) (runC d (nb A) O m) (O m)) (O m)) := hstep
              have hel : ∀ c i, i < (runC d (nb A) O m).sz c → (runC d (nb A) O m).el c i < n := fun c i hi => by obtain ⟨k, hk, e⟩ := hI.mem c i hi; rw [e]; exact HOn.out k (by omega)
              have HEl : Hid (∀ c i, i < (runC d (nb A) O m).sz c → (runC d (nb A) O m).el c i < n) := hel
              have hzero := hI.zero _ (Nat.le_refl _)
              have HZero : Hid ((runC d (nb A) O m).sz (runC d (nb A) O m).nc = 0) := hzero
              have hncm := hI.ncle
              have hszn := HSzn.out m (by omega)
              clear hstep hel hzero hI
              have HSzm : Hid (∀ c, (runC d (nb A) O m).sz c ≤ n) := hszn
              clear hszn
              obtain ⟨bq, offq, eqq, _, hcq⟩ := (yq.ext hS.sc.ext (fun _ h => h)) m hml
              obtain ⟨rfl, rfl⟩ : gq = bq ∧ 0 = offq := by simpa using eqq
              clear eqq
              simp only [Nat.zero_add] at hcq
              obtain ⟨b, off, ra, rc, rfl, hSb, hcell1, hdm, hrow1⟩ := y0 (O m) hpn
              have hcell := cell_ext hcell1 hS.sc.ext hSb
              have hdp := hgr.dle (O m) hpn
              obtain ⟨p, hpe⟩ : ∃ p, O m = p := ⟨_, rfl⟩
              (try dsimp only at hcq)
              rw [hpe] at hcq hpn HStep hcell1 hrow1 hcell hdp hdm
              clear hpe
              generalize runC d (nb A) O m = s at *
              have gp1 : (p : Int) < (n : Int) := by omega
              have gp0 : (0 : Int) ≤ (p : Int) := by omega
              have HF : Hid (∀ c, allB (s.sz c) (fun i => mkM (nb A) (fun _ => true) p (d p) (s.el c i)) = fitB d (nb A) s p c) := by
                intro c; unfold fitB mkM; congr 1; funext i; simp
              have HM0 : ModS wm wr g n (mkM (nb A) (fun _ => true) p 0) tag aC s.nc capC R s.sz cp s.el := by rw [mkM_zero]; exact hS
              clear hS
              rename World => wa
              go_wp2_with fail
              -- LOOP2
              go_loopw [128] (fun s128 wr => ∃ i : Nat, i ≤ d p ∧ s128 = .int .i64 i ∧ ModS wm wr g n (mkM (nb A) (fun _ => true) p i) tag aC s.nc capC R s.sz cp s.el) (fun i _ => d p - (intOf i).toNat)
              case atStart => exact ⟨0, Nat.zero_le _, rfl, HM0⟩
              case round =>
                clear HM0 hcell hcq
                obtain ⟨i, hi, rfl, hS2⟩ := hrel
                by_cases hil : i < d p
                · have hNn := hgr.lt p hpn i hil
                  obtain ⟨b2, off2, rfl, _, hc2⟩ := (hrow1.ext hS2.sc.ext (fun _ h => h)) i hil
                  obtain ⟨hcs, hfs, hput⟩ := hS2.at (nb A p i) hNn
                  have HS3 := hput true
                  rw [← mkM_hit (ok := fun _ => true) rfl] at HS3
                  clear hput
                  dsimp only at hc2
                  generalize nb A p i = r at *
                  go_wp2_with fail
                  go_roundw
                  case rel => exact ⟨i + 1, by omega, by go_num, HS3⟩
                  case measure => simp [intOf]; omega
                · have ei : i = d p := by omega
                  subst i
                  rename World => wb
                  go_wp2_with fail
                  -- LOOP3
                  go_loopw [24, 25] (fun s24 s25 wr => ∃ c : Nat, c ≤ s.nc ∧ s25 = .int .i64 c ∧ s24 = .int .i64 (bI (bestTo (fitB d (nb A) s p) s.sz c)) ∧ ModS wm wr g n (mkM (nb A) (fun _ => true) p (d p)) tag aC s.nc capC R s.sz cp s.el) (fun _ i _ => s.nc - (intOf i).toNat)
                  case atStart => exact ⟨0, Nat.zero_le _, rfl, rfl, hS2⟩
                  case round =>
                    clear hS2
                    obtain ⟨c, hc, rfl, rfl, hS3⟩ := hrel
                    by_cases hcl : c < s.nc
                    · obtain ⟨go, hgo, _, hco⟩ := hS3.cq.outAt c hcl
                      subst hgo
                      have hrow := (hS3.cq.rows c hcl).rd
                      have hszc := HSzm.out c
                      have hall := fun (k : Nat) => allMarked_any (wr.drewN k) _ _ (s.sz c) n (s.el c) (mkM (nb A) (fun _ => true) p (d p)) (R c) (some ⟨g, 0, none⟩) (cp c) n (by omega) (hrow.drewN k) (hS3.sc.own.rd.drewN k) (HEl.out c)
                      rw [HF.out c] at hall
                      have HNo : Hid (fitB d (nb A) s p c = false → bestTo (fitB d (nb A) s p) s.sz (c + 1) = bestTo (fitB d (nb A) s p) s.sz c) := fun h => bestTo_no h
                      have HFi : Hid (fitB d (nb A) s p c = true → bestTo (fitB d (nb A) s p) s.sz c = none → bestTo (fitB d (nb A) s p) s.sz (c + 1) = some c) := fun h h2 => bestTo_first h h2
                      have HMo : Hid (∀ b, fitB d (nb A) s p c = true → bestTo (fitB d (nb A) s p) s.sz c = some b → s.sz b < s.sz c → bestTo (fitB d (nb A) s p) s.sz (c + 1) = some c) := fun b h h2 h3 => bestTo_more h h2 h3
                      have HLe : Hid (∀ b, bestTo (fitB d (nb A) s p) s.sz c = some b → ¬ s.sz b < s.sz c → bestTo (fitB d (nb A) s p) s.sz (c + 1) = some b) := fun b h2 h3 => bestTo_less h2 h3
                      have HBl : Hid (∀ b, bestTo (fitB d (nb A) s p) s.sz c = some b → b < c) := fun b h => bestTo_lt h
                      have k1 : (c : Int) < (s.nc : Int) := by omega
                      have k2 : (0 : Int) ≤ (c : Int) := by omega
                      cases hf : fitB d (nb A) s p c with
                      | false =>
                        rw [hf] at hall
                        have HAll : Hid (∀ k, Calls Try.prog 32 #[.slice (R c) (s.sz c) (cp c), .slice (some ⟨g, 0, none⟩) n n] (wr.drewN k) fun e w' => e = .returned (.bool false) ∧ w' = wr.drewN k) := hall
                        have HE : Hid (bestTo (fitB d (nb A) s p) s.sz (c + 1) = bestTo (fitB d (nb A) s p) s.sz c) := HNo.out hf
                        clear hall hrow HNo HFi HMo HLe HBl hf
                        go_upto_region 31 with fail
                        go_quiet ((go_at_call 32; exact Calls.quiet_of_same (HAll.out _)))
                        go_wp2_with fail
                        go_roundw
                        case rel => exact ⟨c + 1, by omega, by go_num, by rw [HE.out], hS3.drewN _⟩
                        case measure => simp [intOf]; omega
                      | true =>
                        rw [hf] at hall
                        have HAll : Hid (∀ k, Calls Try.prog 32 #[.slice (R c) (s.sz c) (cp c), .slice (some ⟨g, 0, none⟩) n n] (wr.drewN k) fun e w' => e = .returned (.bool true) ∧ w' = wr.drewN k) := hall
                        clear hall hrow
                        cases hbb : bestTo (fitB d (nb A) s p) s.sz c with
                        | none =>
                          have HE : Hid (bestTo (fitB d (nb A) s p) s.sz (c + 1) = some c) := HFi.out hf hbb
                          clear HNo HFi HMo HLe HBl hf hbb
                          simp only [bI]
                          go_upto_region 31 with fail
                          go_quiet ((go_at_call 32; exact Calls.quiet_of_same (HAll.out _)))
                          go_wp2_with fail
                          go_roundw
                          case rel => exact ⟨c + 1, by omega, by go_num, by rw [HE.out], hS3.drewN _⟩
                          case measure => simp [intOf]; omega
                        | some b' =>
                          have hbc := HBl.out b' hbb
                          obtain ⟨go', hgo', _, hcb⟩ := hS3.cq.outAt b' (by omega)
                          obtain rfl : go = go' := by simpa using hgo'
                          have hszb := HSzm.out b'
                          have k3 : (b' : Int) < (s.nc : Int) := by omega
                          have k4 : (0 : Int) ≤ (b' : Int) := by omega
                          have k5 : decide ((b' : Int) < 0) = false := by simp
                          clear hgo'
                          simp only [bI]
                          by_cases hlt : s.sz b' < s.sz c
                          · have HE : Hid (bestTo (fitB d (nb A) s p) s.sz (c + 1) = some c) := HMo.out b' hf hbb hlt
                            have k6 : decide ((s.sz b' : Int) < (s.sz c : Int)) = true := by simp; omega
                            clear HNo HFi HMo HLe HBl hf hbb
                            go_upto_region 31 with fail
                            go_quiet ((go_at_call 32; exact Calls.quiet_of_same (HAll.out _)))
                            go_wp2_with fail
                            go_roundw
                            case rel => exact ⟨c + 1, by omega, by go_num, by rw [HE.out], hS3.drewN _⟩
                            case measure => simp [intOf]; omega
                          · have HE : Hid (bestTo (fitB d (nb A) s p) s.sz (c + 1) = some b') := HLe.out b' hbb hlt
                            have k6 : decide ((s.sz b' : Int) < (s.sz c : Int)) = false := by simp; omega
                            clear HNo HFi HMo HLe HBl hf hbb
                            go_upto_region 31 with fail
                            go_quiet ((go_at_call 32; exact Calls.quiet_of_same (HAll.out _)))
                            go_wp2_with fail
                            go_roundw
                            case rel => exact ⟨c + 1, by omega, by go_num, by rw [HE.out], hS3.drewN _⟩
                            case measure => simp [intOf]; omega
                    · have ec : c = s.nc := by omega
                      subst c
                      rename World => wc
                      have hcell := cell_ext hcell1 hS3.sc.ext hSb
                      have HZ0 : ModS wm wc g n (mkZ (nb A) (mkM (nb A) (fun _ => true) p (d p)) p 0) tag aC s.nc capC R s.sz cp s.el := by rw [mkZ_zero]; exact hS3
                      clear hS3
                      obtain ⟨bb, hbb⟩ : ∃ bb, bestTo (fitB d (nb A) s p) s.sz s.nc = bb := ⟨_, rfl⟩
                      have hj : joinOf d (nb A) s p = bb.getD s.nc := by unfold joinOf; rw [hbb]
                      have hbl : ∀ b', bb = some b' → b' < s.nc := fun b' h => bestTo_lt (by rw [hbb]; exact h)
                      have HBl : Hid (∀ b', bb = some b' → b' < s.nc) := hbl
                      rw [hj] at HStep
                      rw [hbb]
                      clear hbb hj hbl
                      go_wp2_with fail
                      -- LOOP4
                      go_loopw [171] (fun s171 wr => ∃ k : Nat, k ≤ d p ∧ s171 = .int .i64 k ∧ ModS wm wr g n (mkZ (nb A) (mkM (nb A) (fun _ => true) p (d p)) p k) tag aC s.nc capC R s.sz cp s.el) (fun i _ => d p - (intOf i).toNat)
                      case atStart => exact ⟨0, Nat.zero_le _, rfl, HZ0⟩
                      case round =>
                        clear HZ0 hcell
                        obtain ⟨k, hk, rfl, hS4⟩ := hrel
                        by_cases hkl : k < d p
                        · have hNn := hgr.lt p hpn k hkl
                          obtain ⟨b2, off2, rfl, _, hc2⟩ := (hrow1.ext hS4.sc.ext (fun _ h => h)) k hkl
                          obtain ⟨hcs, hfs, hput⟩ := hS4.at (nb A p k) hNn
                          have HS5 := hput false
                          rw [← mkZ_succ] at HS5
                          clear hput
                          dsimp only at hc2
                          generalize nb A p k = r at *
                          go_wp2_with fail
                          go_roundw
                          case rel => exact ⟨k + 1, by omega, by go_num, HS5⟩
                          case measure => simp [intOf]; omega
                        · have ek : k = d p := by omega
                          subst k
                          rw [mkZ_end] at hS4
                          rename World => wz
                          have hgm := hS4.lt
                          cases bb with
                          | none =>
                            have HNext : Hid (runC d (nb A) O (m + 1) = ⟨s.nc + 1, upd s.sz s.nc 1, upd s.el s.nc (upd (s.el s.nc) 0 p)⟩) := by
                              show _ = _
                              rw [HStep.out]
                              unfold putC
                              simp only [Option.getD_none, if_true, HZero.out, Nat.zero_add]
                              rfl
                            clear HStep
                            simp only [bI]
                            go_wp2_with (at_builtin; refine wpList_app _ rfl (.tmp 181) (.tmp 184) 22 rfl 24 (.slice none 0 0) 24 Try.underlying22 info24 rfl (fun k => Tg wm tag 3 k ∧ k < wz.heap.size) aC s.nc capC (fun c => .slice (R c) (s.sz c) (cp c)) rfl (((hS4.cq.outer.mono_lt (fun k hk h => ⟨h, hk⟩)).alloc _).alloc _) ⟨wz.heap.size + 1, 0, none⟩ 1 (.slice (some ⟨wz.heap.size, 0, none⟩) 1 1) rfl (by simp) rfl (by omega) (by omega) ?_)
                            intro aC2 capC2 w20 hoC hxC hsC
                            have hQ := hS4.cq.newRow p rfl (by simp) hoC hxC
                            have hSc := hS4.sc.later ((((Ext.refl (fun k => Tg wm tag 3 k ∧ k < wz.heap.size) wz).alloc _).alloc _).trans hxC (fun k hk h => h)) (fun k h => h.1.2) hgm
                            clear hoC hxC hsC hS4
                            go_wp2_with fail
                            go_roundw
                            case rel => exact ⟨m + 1, _, aC2, capC2, _, _, by omega, by go_num, by rw [HNext.out], by rw [HNext.out]; exact ⟨hSc, hQ, hgm⟩⟩
                            case measure => simp [intOf]; omega
                          | some b' =>
                            have hbl := HBl.out b' rfl
                            have hszb := HSzm.out b'
                            have HNext : Hid (runC d (nb A) O (m + 1) = ⟨s.nc, upd s.sz b' (s.sz b' + 1), upd s.el b' (upd (s.el b') (s.sz b') p)⟩) := by
                              show _ = _
                              rw [HStep.out]
                              unfold putC
                              simp only [Option.getD_some]
                              rw [if_neg (by omega)]
                              rfl
                            clear HStep
                            obtain ⟨gC, eC, _, hcC⟩ := hS4.cq.outAt b' hbl
                            subst eC
                            have k3 : (b' : Int) < (s.nc : Int) := by omega
                            have k4 : (0 : Int) ≤ (b' : Int) := by omega
                            have k5 : decide ((b' : Int) < 0) = false := by simp
                            simp only [bI]
                            go_wp2_with (at_builtin; refine wpList_app _ rfl (.tmp 191) (.tmp 193) 24 rfl 3 (.int .i64 0) 8 Try.underlying24 info3 rfl (Tg wm tag (4 + b')) (R b') (s.sz b') (cp b') (fun i => .int .i64 (s.el b' i : Int)) rfl ((hS4.cq.rows b' (by omega)).alloc _) ⟨wz.heap.size, 0, none⟩ 1 (.int .i64 (p : Int)) rfl (cell_new1 _ _ _ _ (by simp)) rfl (by omega) (by omega) ?_)
                            intro aR capR w20 hoR hxR hsR
                            obtain ⟨gC2, eC2, hgl, hcC2, hfC2, hQ10⟩ := hS4.cq.rowApp ((Ext.refl _ _).alloc _) (by simp) (by omega) hoR hxR
                            obtain rfl : gC = gC2 := by simpa using eC2
                            have hSc := hS4.sc.later (((Ext.refl (Tg wm tag (4 + b')) wz).alloc _).trans hxR (fun k hk h => h)) (fun k h => h.2) hgm
                            have hSc2 := hSc.later ((Ext.refl (fun k => k = gC) w20).setCell (p := ⟨gC, b', none⟩) (fun _ => rfl) (.slice aR (s.sz b' + 1) capR)) (fun k h => by omega) hgm
                            clear eC2 hoR hxR hsR hSc hS4 hcC
                            go_wp2_with fail
                            go_roundw
                            case rel => exact ⟨m + 1, _, some ⟨gC, 0, none⟩, capC, _, _, by omega, by go_num, by rw [HNext.out], by rw [HNext.out]; exact ⟨hSc2, hQ10, hgm⟩⟩
                            case measure => simp [intOf]; omega
            · have em : m = np := by omega
              subst m
              rename World => w21
              -- AFTER THE MODEL
              have hnl := fun (w : World) (a : Option Addr) (n c : Nat) => Lib.run_eql_slice_nil (P := Try.prog) w 22 24 a n c 0 0 Try.underlying22
              have hszn := HSzn.out np (Nat.le_refl _)
              have HSzm : Hid (∀ c, (runC d (nb A) O np).sz c ≤ n) := hszn
              have hncle := hPart.ncle
              clear hszn hPart HSzn HInv
              generalize runC d (nb A) O np = s at *
              have hnn : aG.isNone = ((np : Int) == 0) := by
                have := HGn.out
                cases aG with
                | none => have : np = 0 := this.1 rfl; subst this; rfl
                | some x =>
                  have h : np ≠ 0 := fun e => by have := this.2 e; cases this
                  have : ((np : Int) == 0) = false := by rw [beq_eq_false_iff_ne]; omega
                  rw [this]; rfl
              have hncn : s.nc ≤ 4096 := by omega
              clear HGn
              go_wp2_with fail
              go_loopw [28] (fun s28 wr => ∃ c : Nat, c ≤ s.nc ∧ s28 = .int .i64 c ∧ ModS wm wr g n (fun _ => false) tag aC s.nc capC R s.sz cp s.el) (fun i _ => s.nc - (intOf i).toNat)
              case atStart => exact ⟨0, Nat.zero_le _, rfl, hS⟩
              case round =>
                clear hS hnn hnl
                obtain ⟨c, hc, rfl, hS5⟩ := hrel
                by_cases hcl : c < s.nc
                · obtain ⟨go, hgo, _, hco⟩ := hS5.cq.outAt c hcl
                  subst hgo
                  obtain ⟨bG, offG, rfl, _, hcG⟩ := (yG1.ext hS5.sc.ext (fun _ h => h)) c hcl
                  dsimp only at hcG
                  have rowM := (hS5.cq.rows c hcl).rd
                  have rowG := (yG2 c hcl).ext hS5.sc.ext (fun _ h => h)
                  have hszc := HSzm.out c
                  have HEq : Hid (∀ k, Calls Try.prog 20 #[.slice (RG c) (s.sz c) (cpG c), .slice (R c) (s.sz c) (cp c)] (wr.drewN k) fun e w' => e = .returned (.bool true) ∧ ∃ m, w' = (wr.drewN k).drewN m) := fun k => eqInts_same (wr.drewN k) _ _ (s.sz c) (fun i => (s.el c i : Int)) (RG c) (R c) (cpG c) (cp c) (by omega) (rowG.drewN k) (rowM.drewN k)
                  have k1 : (c : Int) < (s.nc : Int) := by omega
                  have k2 : (0 : Int) ≤ (c : Int) := by omega
                  clear rowM rowG
                  go_upto_region 47 with fail
                  go_quiet ((go_at_call 20; exact Calls.quiet_of (HEq.out _)))
                  go_wp2_with fail
                  go_roundw
                  case rel => exact ⟨c + 1, by omega, by go_num, hS5.drewN _⟩
                  case measure => simp [intOf]; omega
                · have ec : c = s.nc := by omega
                  subst c
                  rename World => w22
                  have hxx := hS5.sc.ext
                  have x0 := y0.ext hxx (fun _ h => h)
                  have x2 := y2.ext hxx (fun _ h => h)
                  have x6 := y6.ext hxx (fun _ h => h)
                  have xsc := ysc.ext hxx (fun _ h => h)
                  clear yG1 yG2 y0 y2 y6 ysc yq
                  go_wp2_with fail
                  go_loop [29, 228] (fun s29 s228 => ∃ i : Nat, i ≤ np ∧ s228 = .int .i64 i ∧ s29 = .int .i64 ((sumN i (fun j => d (pn P j)) : Nat) : Int)) (fun _ i => np - (intOf i).toNat)
                  case atStart => exact ⟨0, Nat.zero_le _, rfl, rfl⟩
                  case round =>
                    obtain ⟨i, hi, rfl, rfl⟩ := hrel
                    have hsl : sumN i (fun j => d (pn P j)) ≤ i * 131072 := sumN_le (fun j hj => HD.out _ (HPn.out j (by omega)))
                    by_cases hil : i < np
                    · obtain ⟨b6', off6, rfl, _, hc6⟩ := x6 i hil
                      have hpn := HPn.out i hil
                      obtain ⟨b, off, ra, rc, rfl, hSb, hcell, hdm, hrow⟩ := x0 (pn P i) hpn
                      have hdp := HD.out (pn P i) hpn
                      have hse : sumN (i + 1) (fun j => d (pn P j)) = sumN i (fun j => d (pn P j)) + d (pn P i) := rfl
                      have HSe : Hid (sumN (i + 1) (fun j => d (pn P j)) = sumN i (fun j => d (pn P j)) + d (pn P i)) := hse
                      clear hse hrow
                      dsimp only at hc6
                      generalize sumN i (fun j => d (pn P j)) = sm at *
                      generalize pn P i = p at *
                      go_wp2_with fail
                      go_round
                      case rel => exact ⟨i + 1, by omega, by go_num, by rw [HSe.out] <;> (congr 1 <;> go_num)⟩
                      case measure => simp [intOf]; omega
                    · have ei : i = np := by omega
                      subst i
                      generalize sumN np (fun j => d (pn P j)) = sm at *
                      go_wp2_with fail
                      refine (top_any _ (fun k => k ≠ g) (fun k => k ≠ g) n np (pn P) dg b6 b2 np n x6 x2 HPd.out (by omega) (by omega)).mono ?_
                      rintro e wt ⟨tz, rfl, htz, hwt⟩
                      subst wt
                      obtain rfl : t = tz := hTop.uniq htz (fun i hi => (HPd.out i hi).2)
                      have hfin : (s0 != wrap64 (wrap64 (wrap64 (steps + (sm : Int)) + 2 * (np : Int)) + (t : Int))) = false := by
                        rw [bne_eq_false_iff_eq, ← HS0.out]; unfold wrap64; omega
                      clear htz
                      go_wp2_with fail
                      go_loop [32] (fun s32 => ∃ k : Nat, k ≤ n ∧ s32 = .int .i64 k) (fun i => n - (intOf i).toNat)
                      case atStart => exact ⟨0, Nat.zero_le _, rfl⟩
                      case round =>
                        obtain ⟨k, hk, rfl⟩ := hrel
                        by_cases hkl : k < n
                        · obtain ⟨bz, offz, rfl, _, hcz⟩ := xsc k hkl
                          dsimp only at hcz
                          go_wp2_with fail
                          go_round
                          case rel => exact ⟨k + 1, by omega, by go_num⟩
                          case measure => simp [intOf]; omega
                        · go_wp2_with fail
                          go_ret
                          exact ⟨rfl, hxW.trans hxx (fun k hk e => by omega)⟩
      · clear hab
        go_wp2_with fail
        go_ret
        exact ⟨rfl, Ext.refl _ _⟩
    · by_cases hl1 : ns ≤ 1048576
      · have b1 : decide ((1048576 : Int) < (ns : Int)) = false := by simp; omega
        by_cases hl2 : nd ≤ 131072
        · have b2 : decide ((131072 : Int) < (nd : Int)) = false := by simp; omega
          by_cases hl4 : nsc ≤ 131072
          · have b4 : decide ((131072 : Int) < (nsc : Int)) = false := by simp; omega
            have b6 : decide ((4096 : Int) < (np : Int)) = true := by simp; omega
            go_wp2_with fail
            go_ret
            exact ⟨rfl, Ext.refl _ _⟩
          · have b4 : decide ((131072 : Int) < (nsc : Int)) = true := by simp; omega
            go_wp2_with fail
            go_ret
            exact ⟨rfl, Ext.refl _ _⟩
        · have b2 : decide ((131072 : Int) < (nd : Int)) = true := by simp; omega
          go_wp2_with fail
          go_ret
          exact ⟨rfl, Ext.refl _ _⟩
      · have b1 : decide ((1048576 : Int) < (ns : Int)) = true := by simp; omega
        go_wp2_with fail
        go_ret
        exact ⟨rfl, Ext.refl _ _⟩
end Go.Proofs.Qxb6601557a
