/-
  FnTriangleThreadMatchesModel: the walk. By an AI agent.
-/
import Derived.Test.Qxb6601557aM7
import Derived.Test.Qxb6601557aBytes
import Derived.Test.Qxb6601557aAdjBytes
import Derived.Test.Qxb6601557aFrame
import Derived.Deep.RegionWith
import Derived.Deep.CutRange
namespace Go.Proofs.Qxb6601557a
set_option linter.unusedVariables false
open Go.RowKit

set_option maxHeartbeats 16000000 in
set_option maxRecDepth 100000 in
theorem law7 (W : World) (S : Nat → Prop) (a0 a1 a2 a4 a5 a6 : Option Addr) (n c0 ns c1 nd c2 nsc c4 nl c5 np c6 : Nat) (d : Nat → Nat) (A : Nat → Nat → Int) (st dg sc P : Nat → Int) (pl : Nat → Bool) (steps : Int)
    (h0 : n ≤ 17592186044416) (h1 : ns ≤ 140737488355328) (h2 : nd ≤ 17592186044416) (h4 : nsc ≤ 17592186044416) (h5 : nl ≤ 140737488355328) (h6 : np ≤ 17592186044416)
    (r0 : RdAdj S W a0 n d A) (r1 : Rd S W a1 ns (fun j => .int .i8 (st j))) (r2 : Rd S W a2 nd (fun j => .int .i64 (dg j))) (r4 : Rd S W a4 nsc (fun j => .int .i64 (sc j))) (r5 : Rd S W a5 nl (fun j => .bool (pl j))) (r6 : Rd S W a6 np (fun j => .int .i64 (P j))) :
    Calls Try.prog 7 #[.slice a0 n c0, .slice a1 ns c1, .slice a2 nd c2, .int .i64 steps, .slice a4 nsc c4, .slice a5 nl c5, .slice a6 np c6] W (Fine W) := by
  go_enter Try.func7, Try.ntmps7
  go_wp2_with fail
  refine (bytes36_any S a0 n c0 d A W (by omega) r0 a1 ns c1 a2 nd c2 steps a4 nsc c4 a5 nl c5 a6 np c6 (by omega) (by omega) (by omega) (by omega) (by omega)).mono ?_
  rintro e w' ⟨⟨r, rfl⟩, hw⟩
  subst w'
  cases r with
  | false =>
    go_wp2_with fail
    go_ret
    exact ⟨rfl, Ext.refl _ _⟩
  | true =>
    by_cases hlen : ns ≤ 1048576 ∧ nd ≤ 131072 ∧ nsc ≤ 131072 ∧ nl ≤ 1048576 ∧ np ≤ 4096
    · obtain ⟨hl1, hl2, hl4, hl5, hl6⟩ := hlen
      have b1 : decide ((1048576 : Int) < (ns : Int)) = false := by simp; omega
      have b2 : decide ((131072 : Int) < (nd : Int)) = false := by simp; omega
      have b4 : decide ((131072 : Int) < (nsc : Int)) = false := by simp; omega
      have b5 : decide ((1048576 : Int) < (nl : Int)) = false := by simp; omega
      have b6 : decide ((4096 : Int) < (np : Int)) = false := by simp; omega
      go_wp2_with fail
      refine (adjBytes_any S a0 n c0 d A W (by omega) r0).mono ?_
      rintro e w' ⟨t, rfl, hab, hw⟩
      subst w'
      have hlo := hab.lo
      have hhi := hab.hi
      by_cases hsum : t + ns + 8 * nd + 8 * nsc + nl + 8 * np ≤ 1048576
      · obtain ⟨hn, hd⟩ := hab.ok (by omega)
        have HD : Hid (∀ p, p < n → d p ≤ 131072) := hd
        clear hd hab
        by_cases hnl : nl = n
        · subst nl
          have e1 : ((n : Int) != (n : Int)) = false := by simp
          go_wp2_with fail
          refine (places_any (fun _ => True) a0 a1 a2 a4 a6 n c0 ns c1 nd c2 nsc c4 np c6 d A st dg sc P W (by omega) (by omega) (by omega) (by omega) (by omega) (r0.mono (fun _ _ => trivial)) (r1.mono (fun _ _ => trivial)) (r2.mono (fun _ _ => trivial)) (r4.mono (fun _ _ => trivial)) (r6.mono (fun _ _ => trivial))).mono ?_
          rintro e w2 ⟨⟨r, rfl, hprem⟩, hx, hpos⟩
          cases r with
          | false =>
            go_wp2_with fail
            go_ret
            exact ⟨rfl, hx⟩
          | true =>
            have hp := hprem rfl
            have hW2 := hpos rfl
            clear hprem hpos
            obtain ⟨e1, e2, e3, hwf, hsc0, hpl⟩ := hp
            subst ns
            subst nd
            subst nsc
            have HPl : Hid (∀ k, k < np → PlaceOk n st dg P k) := hpl
            clear hpl
            have hpn : ∀ k, k < np → pn P k < n := fun k hk => by have := pn_eq (HPl.out k hk); have := (HPl.out k hk).hi; omega
            have HPn : Hid (∀ k, k < np → pn P k < n) := hpn
            have hd0 : ∀ i, i < np → 0 ≤ dg (pn P i) := fun i hi => (HPl.out i hi).dlo
            have HPd : Hid (∀ i, i < np → pn P i < n ∧ 0 ≤ dg (pn P i)) := fun i hi => ⟨hpn i hi, hd0 i hi⟩
            obtain ⟨ok, hok⟩ : ∃ ok : Nat → Bool, ∀ q, ok q = (decide (st q = 0) && !pl q) := ⟨_, fun _ => rfl⟩
            have HOk : Hid (∀ q, ok q = (decide (st q = 0) && !pl q)) := hok
            have HSc0 : Hid (∀ j, j < n → sc j = 0) := hsc0
            have HD0 : Hid (∀ i, i < np → 0 ≤ dg (pn P i)) := hd0
            clear hpn hok hsc0 hd0
            have s0 : RdAdj (fun _ => True) w2 a0 n d A := (r0.ext hx (fun _ _ h => h)).mono (fun _ _ => trivial)
            have s1 : Rd (fun _ => True) w2 a1 n (fun j => .int .i8 (st j)) := (r1.ext hx (fun _ _ h => h)).mono (fun _ _ => trivial)
            have s2 : Rd (fun _ => True) w2 a2 n (fun j => .int .i64 (dg j)) := (r2.ext hx (fun _ _ h => h)).mono (fun _ _ => trivial)
            have s4 : Rd (fun _ => True) w2 a4 n (fun j => .int .i64 0) := ((r4.ext hx (fun _ _ h => h)).mono (fun _ _ => trivial)).congr (fun j hj => by rw [HSc0.out j hj])
            have s5 : Rd (fun _ => True) w2 a5 n (fun j => .bool (pl j)) := (r5.ext hx (fun _ _ h => h)).mono (fun _ _ => trivial)
            have s6 : Rd (fun _ => True) w2 a6 np (fun j => .int .i64 (pn P j : Int)) := ((r6.ext hx (fun _ _ h => h)).mono (fun _ _ => trivial)).congr (fun j hj => by rw [pn_eq (HPl.out j hj)])
            clear r0 r1 r2 r4 r5 r6 b1 b2 b4 b5 b6
            go_wp2_with fail
            refine (copyAdj_any (fun _ => True) a0 n c0 d A w2 (by omega) (fun p hp => by have := HD.out p hp; omega) s0 s0.nil0).mono ?_
            rintro e w3 ⟨b0, rfl, hc⟩
            replace hx := hx.trans hc.ext (fun _ _ h => h)
            replace s1 := s1.ext hc.ext (fun _ _ h => h)
            replace s2 := s2.ext hc.ext (fun _ _ h => h)
            replace s4 := s4.ext hc.ext (fun _ _ h => h)
            replace s5 := s5.ext hc.ext (fun _ _ h => h)
            replace s6 := s6.ext hc.ext (fun _ _ h => h)
            have q0 := hc.own.rd.mono (T := fun _ => True) (fun _ _ => trivial)
            replace hW2 := Nat.lt_of_lt_of_le hW2 hc.ext.size
            clear hc s0
            go_wp2_with fail
            refine (copyInt8s_any (fun _ => True) a1 n c1 st w3 (by omega) s1 s1.nil0).mono ?_
            rintro e w4 ⟨b1, rfl, hc⟩
            replace hx := hx.trans hc.ext (fun _ _ h => h)
            replace s2 := s2.ext hc.ext (fun _ _ h => h)
            replace s4 := s4.ext hc.ext (fun _ _ h => h)
            replace s5 := s5.ext hc.ext (fun _ _ h => h)
            replace s6 := s6.ext hc.ext (fun _ _ h => h)
            replace q0 := q0.ext hc.ext (fun _ _ h => h)
            have q1 := hc.own.rd.mono (T := fun _ => True) (fun _ _ => trivial)
            replace hW2 := Nat.lt_of_lt_of_le hW2 hc.ext.size
            clear hc s1
            go_wp2_with fail
            refine (copyInts_any (fun _ => True) a2 n c2 dg w4 (by omega) s2 s2.nil0).mono ?_
            rintro e w5 ⟨b2, rfl, hc⟩
            replace hx := hx.trans hc.ext (fun _ _ h => h)
            replace s4 := s4.ext hc.ext (fun _ _ h => h)
            replace s5 := s5.ext hc.ext (fun _ _ h => h)
            replace s6 := s6.ext hc.ext (fun _ _ h => h)
            replace q0 := q0.ext hc.ext (fun _ _ h => h)
            replace q1 := q1.ext hc.ext (fun _ _ h => h)
            have q2 := hc.own.rd.mono (T := fun _ => True) (fun _ _ => trivial)
            replace hW2 := Nat.lt_of_lt_of_le hW2 hc.ext.size
            clear hc s2
            go_wp2_with fail
            refine (copyInts_any (fun _ => True) a4 n c4 (fun _ => 0) w5 (by omega) s4 s4.nil0).mono ?_
            rintro e w6 ⟨b4, rfl, hc⟩
            replace hx := hx.trans hc.ext (fun _ _ h => h)
            replace s5 := s5.ext hc.ext (fun _ _ h => h)
            replace s6 := s6.ext hc.ext (fun _ _ h => h)
            replace q0 := q0.ext hc.ext (fun _ _ h => h)
            replace q1 := q1.ext hc.ext (fun _ _ h => h)
            replace q2 := q2.ext hc.ext (fun _ _ h => h)
            have q4 := hc.own.rd.mono (T := fun _ => True) (fun _ _ => trivial)
            replace hW2 := Nat.lt_of_lt_of_le hW2 hc.ext.size
            clear hc s4
            go_wp2_with fail
            refine (copyBools_any (fun _ => True) a5 n c5 pl w6 (by omega) s5 s5.nil0).mono ?_
            rintro e w7 ⟨b5, rfl, hc⟩
            replace hx := hx.trans hc.ext (fun _ _ h => h)
            replace s6 := s6.ext hc.ext (fun _ _ h => h)
            replace q0 := q0.ext hc.ext (fun _ _ h => h)
            replace q1 := q1.ext hc.ext (fun _ _ h => h)
            replace q2 := q2.ext hc.ext (fun _ _ h => h)
            replace q4 := q4.ext hc.ext (fun _ _ h => h)
            have q5 := hc.own.rd.mono (T := fun _ => True) (fun _ _ => trivial)
            replace hW2 := Nat.lt_of_lt_of_le hW2 hc.ext.size
            clear hc s5
            go_wp2_with fail
            refine (copyInts_any (fun _ => True) a6 np c6 (fun j => (pn P j : Int)) w7 (by omega) s6 s6.nil0).mono ?_
            rintro e w8 ⟨b6, rfl, hc⟩
            replace hx := hx.trans hc.ext (fun _ _ h => h)
            replace q0 := q0.ext hc.ext (fun _ _ h => h)
            replace q1 := q1.ext hc.ext (fun _ _ h => h)
            replace q2 := q2.ext hc.ext (fun _ _ h => h)
            replace q4 := q4.ext hc.ext (fun _ _ h => h)
            replace q5 := q5.ext hc.ext (fun _ _ h => h)
            have q6 := hc.own.rd.mono (T := fun _ => True) (fun _ _ => trivial)
            replace hW2 := Nat.lt_of_lt_of_le hW2 hc.ext.size
            clear hc s6
            go_wp2_with fail
            refine (copyAdj_any (fun _ => True) b0 n n d A w8 (by omega) (fun p hp => by have := HD.out p hp; omega) q0 q0.nil0).mono ?_
            rintro e w9 ⟨e0, rfl, hc⟩
            replace hx := hx.trans hc.ext (fun _ _ h => h)
            replace q0 := q0.ext hc.ext (fun _ _ h => h)
            replace q1 := q1.ext hc.ext (fun _ _ h => h)
            replace q2 := q2.ext hc.ext (fun _ _ h => h)
            replace q4 := q4.ext hc.ext (fun _ _ h => h)
            replace q5 := q5.ext hc.ext (fun _ _ h => h)
            replace q6 := q6.ext hc.ext (fun _ _ h => h)
            have z0 := hc.own.rd.mono (T := fun _ => True) (fun _ _ => trivial)
            replace hW2 := Nat.lt_of_lt_of_le hW2 hc.ext.size
            clear hc
            go_wp2_with fail
            refine (copyInt8s_any (fun _ => True) b1 n n st w9 (by omega) q1 q1.nil0).mono ?_
            rintro e w10 ⟨e1, rfl, hc⟩
            replace hx := hx.trans hc.ext (fun _ _ h => h)
            replace q0 := q0.ext hc.ext (fun _ _ h => h)
            replace q1 := q1.ext hc.ext (fun _ _ h => h)
            replace q2 := q2.ext hc.ext (fun _ _ h => h)
            replace q4 := q4.ext hc.ext (fun _ _ h => h)
            replace q5 := q5.ext hc.ext (fun _ _ h => h)
            replace q6 := q6.ext hc.ext (fun _ _ h => h)
            replace z0 := z0.ext hc.ext (fun _ _ h => h)
            have z1 := hc.own.rd.mono (T := fun _ => True) (fun _ _ => trivial)
            replace hW2 := Nat.lt_of_lt_of_le hW2 hc.ext.size
            clear hc
            go_wp2_with fail
            refine (copyInts_any (fun _ => True) b2 n n dg w10 (by omega) q2 q2.nil0).mono ?_
            rintro e w11 ⟨e2, rfl, hc⟩
            replace hx := hx.trans hc.ext (fun _ _ h => h)
            replace q0 := q0.ext hc.ext (fun _ _ h => h)
            replace q1 := q1.ext hc.ext (fun _ _ h => h)
            replace q2 := q2.ext hc.ext (fun _ _ h => h)
            replace q4 := q4.ext hc.ext (fun _ _ h => h)
            replace q5 := q5.ext hc.ext (fun _ _ h => h)
            replace q6 := q6.ext hc.ext (fun _ _ h => h)
            replace z0 := z0.ext hc.ext (fun _ _ h => h)
            replace z1 := z1.ext hc.ext (fun _ _ h => h)
            have z2 := hc.own.rd.mono (T := fun _ => True) (fun _ _ => trivial)
            replace hW2 := Nat.lt_of_lt_of_le hW2 hc.ext.size
            clear hc
            go_wp2_with fail
            refine (copyInts_any (fun _ => True) b4 n n (fun _ => 0) w11 (by omega) q4 q4.nil0).mono ?_
            rintro e w12 ⟨asc, rfl, hc⟩
            replace hx := hx.trans hc.ext (fun _ _ h => h)
            obtain ⟨bsc, hsc, hbl, hbW, hb0⟩ := pickSc hc hW2
            have hbn : 0 < np → bsc = w11.heap.size := fun h => hb0 (by have := HPn.out 0 h; omega)
            replace q0 := (q0.away hb0).ext hc.ext (fun _ _ h => h)
            replace q1 := (q1.away hb0).ext hc.ext (fun _ _ h => h)
            replace q2 := (q2.away hb0).ext hc.ext (fun _ _ h => h)
            replace q5 := (q5.away hb0).ext hc.ext (fun _ _ h => h)
            replace q6 := (q6.away hbn).ext hc.ext (fun _ _ h => h)
            replace z0 := (z0.away hb0).ext hc.ext (fun _ _ h => h)
            replace z1 := (z1.away hb0).ext hc.ext (fun _ _ h => h)
            replace z2 := (z2.away hb0).ext hc.ext (fun _ _ h => h)
            clear hc q4
            go_wp2_with fail
            refine (copyBools_any (fun k => k ≠ bsc) b5 n n pl w12 (by omega) q5 q5.nil0).mono ?_
            rintro e w13 ⟨e5, rfl, hc⟩
            replace hx := hx.trans hc.ext (fun _ _ h => h)
            replace q0 := q0.ext hc.ext (fun _ _ h => h)
            replace q1 := q1.ext hc.ext (fun _ _ h => h)
            replace q2 := q2.ext hc.ext (fun _ _ h => h)
            replace q5 := q5.ext hc.ext (fun _ _ h => h)
            replace q6 := q6.ext hc.ext (fun _ _ h => h)
            replace z0 := z0.ext hc.ext (fun _ _ h => h)
            replace z1 := z1.ext hc.ext (fun _ _ h => h)
            replace z2 := z2.ext hc.ext (fun _ _ h => h)
            replace hsc := hsc.ext hc.ext (fun _ _ h => h)
            have z5 := hc.own.rd.mono (T := fun k => k ≠ bsc) (fun k hk => by omega)
            replace hbl := Nat.lt_of_lt_of_le hbl hc.ext.size
            clear hc
            go_wp2_with fail
            refine (copyInts_any (fun k => k ≠ bsc) b6 np np (fun j => (pn P j : Int)) w13 (by omega) q6 q6.nil0).mono ?_
            rintro e w14 ⟨e6, rfl, hc⟩
            replace hx := hx.trans hc.ext (fun _ _ h => h)
            replace q0 := q0.ext hc.ext (fun _ _ h => h)
            replace q1 := q1.ext hc.ext (fun _ _ h => h)
            replace q2 := q2.ext hc.ext (fun _ _ h => h)
            replace q5 := q5.ext hc.ext (fun _ _ h => h)
            replace q6 := q6.ext hc.ext (fun _ _ h => h)
            replace z0 := z0.ext hc.ext (fun _ _ h => h)
            replace z1 := z1.ext hc.ext (fun _ _ h => h)
            replace z2 := z2.ext hc.ext (fun _ _ h => h)
            replace z5 := z5.ext hc.ext (fun _ _ h => h)
            replace hsc := hsc.ext hc.ext (fun _ _ h => h)
            have z6 := hc.own.rd.mono (T := fun k => k ≠ bsc) (fun k hk => by omega)
            replace hbl := Nat.lt_of_lt_of_le hbl hc.ext.size
            clear hc
            go_wp2_with fail
            have hZ : ZIn w14 bsc (fun k => k ≠ bsc) n d (nb A) st dg np (pn P) e0 e1 e2 asc e6 n := by
              refine ⟨z0.congr (fun p hp i hi => hwf.nb hp hi), z1, z2, hsc, z6, fun k hk => hk, hbl, fun i hi => ?_, fun i j hi hj e => ?_, hwf.gr HD.out⟩
              · have hk := HPl.out i hi
                exact ⟨HPn.out i hi, hk.dlo, hk.dhi, hk.free⟩
              · have e1 := pn_eq (HPl.out i hi)
                have e2 := pn_eq (HPl.out j hj)
                rcases Nat.lt_trichotomy i j with hl | hl | hl
                · exact absurd (by omega) ((HPl.out j hj).new i hl)
                · exact hl
                · exact absurd (by omega) ((HPl.out i hi).new j hl)
            refine (zztri_any w14 bsc _ n d (nb A) st dg np (pn P) e0 e1 e2 asc e6 n n n n np steps pl e5 n ok hZ z5 (by omega) (by omega) HOk.out).mono ?_
            rintro e w15 ⟨t, O, rfl, hO⟩
            clear hZ z0 z1 z2 z5 z6 hsc
            have z0 := (q0.congr (fun p hp i hi => hwf.nb hp hi)).ext hO.ext (fun _ h => h)
            have z1 := q1.ext hO.ext (fun _ h => h)
            have z2 := q2.ext hO.ext (fun _ h => h)
            have z5 := q5.ext hO.ext (fun _ h => h)
            have z6 := q6.ext hO.ext (fun _ h => h)
            have hbl15 := Nat.lt_of_lt_of_le hbl hO.ext.size
            have hx14 := hx
            have hd0 := HD0.out
            clear q0 q1 q2 q5 q6 hx
            -- AFTER ZZTri at w15
            have hTop := hO.ord.top
            obtain ⟨hpl1, hpl2⟩ := tt_thread (d := d) (N := nb A) (ok := ok) (pl := pl) hO.ord hd0
            have hsum := tt_sum (d := d) (N := nb A) (ok := ok) (pl := pl) hO.ord hd0
            rw [hpl1, hpl2, hsum]
            have hBn := fun b (h : bstT d (nb A) ok pl dg (pn P) np = some b) => (bstI_some _ _ h).1
            have HBn0 : Hid (∀ b, bstT d (nb A) ok pl dg (pn P) np = some b → b < np) := hBn
            clear hpl1 hpl2 hsum hBn
            obtain ⟨BB, hBB⟩ : ∃ BB, bstT d (nb A) ok pl dg (pn P) np = BB := ⟨_, rfl⟩
            rw [hBB]
            have HBB : Hid (bstT d (nb A) ok pl dg (pn P) np = BB) := hBB
            clear hBB
            obtain ⟨tv, htv⟩ : ∃ tv : Nat, bP (pn P) BB = tv := ⟨_, rfl⟩
            rw [htv]
            have HTv : Hid (bP (pn P) BB = tv) := htv
            clear htv
            obtain ⟨bv, hbv⟩ : ∃ bv : Bool, BB.isSome = bv := ⟨_, rfl⟩
            rw [hbv]
            have HBv : Hid (BB.isSome = bv) := hbv
            clear hbv
            obtain ⟨s0, hs0⟩ : ∃ s0 : Int, steps + (2 * (np : Int) + (t : Int)) = s0 := ⟨_, rfl⟩
            rw [hs0]
            have HS0 : Hid (steps + (2 * (np : Int) + (t : Int)) = s0) := hs0
            clear hs0
            obtain ⟨fin, hfin⟩ : ∃ fin : Int, wrap64 (s0 + ((sumN np (cstI d (nb A) ok pl dg (pn P) BB) : Nat) : Int)) = fin := ⟨_, rfl⟩
            rw [hfin]
            have HFin : Hid (wrap64 (s0 + ((sumN np (cstI d (nb A) ok pl dg (pn P) BB) : Nat) : Int)) = fin) := hfin
            clear hfin
            go_wp2_with (at_make; refine wpList_mk _ rfl _ _ 26 rfl 4 (.bool false) 1 Try.underlying26 info4 rfl _ _ n rfl rfl rfl rfl (by omega) (by omega) ?_)
            intro wm hown hxm hszm
            obtain ⟨g, hg⟩ : ∃ g, w15.heap.size = g := ⟨_, rfl⟩
            have hM : M7 wm g n d (nb A) st dg pl ok np (pn P) b0 b1 b2 b5 b6 asc := by
              have lt : ∀ k, k < w15.heap.size → k ≠ bsc → k ≠ g := fun k hk _ => by omega
              exact ⟨⟨(z0.mono_lt lt).ext hxm (fun _ _ h => h), (z1.mono_lt lt).ext hxm (fun _ _ h => h), (z5.mono_lt lt).ext hxm (fun _ _ h => h), fun k hk => hk, hwf.gr HD.out, HOk.out⟩, (z2.mono_lt lt).ext hxm (fun _ _ h => h), (z6.mono_lt lt).ext hxm (fun _ _ h => h), (hO.sc.rd.mono_lt (fun k hk e => by omega)).ext hxm (fun _ _ h => h)⟩
            have hSc0 : ScS wm wm g n n (fun _ => false) := ⟨Ext.refl _ _, by rw [← hg]; exact hown⟩
            have hxW : Ext (fun _ => False) W wm := (hx14.trans hO.ext (fun i hi e => by omega)).trans hxm (fun _ _ h => h)
            have hgW : W.heap.size ≤ g := by have := hx14.size; have := hO.ext.size; omega
            rw [hg]
            clear hown hxm hszm hO z0 z1 z2 z5 z6 hx14 hg
            -- LOOP1
            go_wp2_with fail
            go_loopw [21, 22] (fun s21 s22 wr => ∃ i : Nat, i ≤ np ∧ s22 = .int .i64 i ∧ s21 = .int .i64 (bI (bstT d (nb A) ok pl dg (pn P) i)) ∧ ScS wm wr g n n (fun _ => false)) (fun _ i _ => np - (intOf i).toNat)
            case atStart => exact ⟨0, Nat.zero_le _, rfl, rfl, hSc0⟩
            case round =>
              clear hSc0
              obtain ⟨i, hi, rfl, rfl, hS⟩ := hrel
              have hM1 := hM.later hS.ext
              by_cases hil : i < np
              · obtain ⟨bp6, offp6, rfl, _, hcp⟩ := hM1.plc i hil
                have hpn := HPn.out i hil
                obtain ⟨bpl, offpl, rfl, _, hcpl⟩ := hM1.scn.plr (pn P i) hpn
                dsimp only at hcp hcpl
                have HNo : Hid (okI d (nb A) ok pl (pn P) i = false → bstT d (nb A) ok pl dg (pn P) (i + 1) = bstT d (nb A) ok pl dg (pn P) i) := fun h => bstI_no _ _ h
                have HFi : Hid (okI d (nb A) ok pl (pn P) i = true → bstT d (nb A) ok pl dg (pn P) i = none → bstT d (nb A) ok pl dg (pn P) (i + 1) = some i) := fun h h2 => bstI_first _ _ h h2
                have HMo : Hid (∀ b, okI d (nb A) ok pl (pn P) i = true → bstT d (nb A) ok pl dg (pn P) i = some b → dg (pn P b) < dg (pn P i) → bstT d (nb A) ok pl dg (pn P) (i + 1) = some i) := fun b h h2 h3 => bstI_more _ _ h h2 h3
                have HLe : Hid (∀ b, bstT d (nb A) ok pl dg (pn P) i = some b → ¬ dg (pn P b) < dg (pn P i) → bstT d (nb A) ok pl dg (pn P) (i + 1) = some b) := fun b h2 h3 => bstI_less _ _ h2 h3
                have HBl : Hid (∀ b, bstT d (nb A) ok pl dg (pn P) i = some b → b < i) := fun b h => (bstI_some _ _ h).1
                have HOi : Hid (okI d (nb A) ok pl (pn P) i = (!pl (pn P i) && triB d (nb A) ok (pn P i))) := rfl
                obtain ⟨p, hpi⟩ : ∃ p, pn P i = p := ⟨_, rfl⟩
                have HPi : Hid (pn P i = p) := hpi
                rw [hpi] at hcp hcpl hpn HOi
                clear hpi
                cases hplp : pl p with
                | true =>
                  simp only [hplp] at hcpl
                  have HE : Hid (bstT d (nb A) ok pl dg (pn P) (i + 1) = bstT d (nb A) ok pl dg (pn P) i) := HNo.out (by rw [HOi.out, hplp]; rfl)
                  clear hplp
                  go_wp2_with fail
                  go_roundw
                  case rel => exact ⟨i + 1, by omega, by go_num, by rw [HE.out], hS⟩
                  case measure => simp [intOf]; omega
                | false =>
                  simp only [hplp] at hcpl
                  have HOj : Hid (okI d (nb A) ok pl (pn P) i = triB d (nb A) ok p) := by show _ = _; rw [HOi.out, hplp]; rfl
                  clear hplp
                  go_wp2_with fail
                  refine (scan_any _ g (fun k => k ≠ g) n d (nb A) st pl ok b0 b1 _ n n n n p hM1.scn hS.own hpn (by omega)).mono ?_
                  rintro e wz ⟨rfl, hS3⟩
                  have hS4 := hS.trans hS3
                  have hM3 := hM.later hS4.ext
                  clear hS hS3 hM1 hcp hcpl
                  generalize triC d (nb A) ok p = cc at *
                  cases htb : triB d (nb A) ok p with
                  | false =>
                    have HE : Hid (bstT d (nb A) ok pl dg (pn P) (i + 1) = bstT d (nb A) ok pl dg (pn P) i) := HNo.out (by rw [HOj.out, htb])
                    clear htb
                    go_upto_region 25 with fail
                    go_quiet (fail)
                    go_wp2_with fail
                    go_roundw
                    case rel => exact ⟨i + 1, by omega, by go_num, by rw [HE.out], hS4.drewN _⟩
                    case measure => simp [intOf]; omega
                  | true =>
                    cases hbb : bstT d (nb A) ok pl dg (pn P) i with
                    | none =>
                      have HE : Hid (bstT d (nb A) ok pl dg (pn P) (i + 1) = some i) := HFi.out (by rw [HOj.out, htb]) hbb
                      clear htb hbb
                      simp only [bI]
                      go_upto_region 25 with fail
                      go_quiet (fail)
                      go_wp2_with fail
                      go_roundw
                      case rel => exact ⟨i + 1, by omega, by go_num, by rw [HE.out]; rfl, hS4.drewN _⟩
                      case measure => simp [intOf]; omega
                    | some b =>
                      have hbi := HBl.out b hbb
                      have hbq : b < np := by omega
                      have hqn := HPn.out b hbq
                      obtain ⟨_, _, eP, _, hcq⟩ := hM3.plc b hbq
                      obtain ⟨rfl, rfl⟩ : bp6 = _ ∧ offp6 = _ := by simpa using eP
                      clear eP
                      have HM1 : Hid (dg (pn P b) < dg p → bstT d (nb A) ok pl dg (pn P) (i + 1) = some i) := fun h => HMo.out b (by rw [HOj.out, htb]) hbb (by rw [HPi.out]; exact h)
                      have HL1 : Hid (¬ dg (pn P b) < dg p → bstT d (nb A) ok pl dg (pn P) (i + 1) = some b) := fun h => HLe.out b hbb (by rw [HPi.out]; omega)
                      clear htb hbb HNo HFi HMo HLe HBl HOi HOj
                      dsimp only at hcq
                      obtain ⟨q, hqe⟩ : ∃ q, pn P b = q := ⟨_, rfl⟩
                      rw [hqe] at hcq hqn HM1 HL1
                      clear hqe
                      obtain ⟨bd, offd, rfl, _, hcd⟩ := hM3.deg p hpn
                      obtain ⟨_, _, eD, _, hcdq⟩ := hM3.deg q hqn
                      obtain ⟨rfl, rfl⟩ : bd = _ ∧ offd = _ := by simpa using eD
                      clear eD
                      dsimp only at hcd hcdq
                      have g1 : (p : Int) < (n : Int) := by omega
                      have g2 : (0 : Int) ≤ (p : Int) := by omega
                      have g3 : (q : Int) < (n : Int) := by omega
                      have g4 : (0 : Int) ≤ (q : Int) := by omega
                      have g5 : (b : Int) < (np : Int) := by omega
                      have g6 : (0 : Int) ≤ (b : Int) := by omega
                      have g7 : decide ((b : Int) < 0) = false := by simp
                      simp only [bI]
                      by_cases hgt : dg q < dg p
                      · have HE : Hid (bstT d (nb A) ok pl dg (pn P) (i + 1) = some i) := HM1.out hgt
                        have t2 : decide (dg q < dg p) = true := by simp [hgt]
                        go_upto_region 25 with fail
                        go_quiet (fail)
                        go_wp2_with fail
                        go_roundw
                        case rel => exact ⟨i + 1, by omega, by go_num, by rw [HE.out]; rfl, hS4.drewN _⟩
                        case measure => simp [intOf]; omega
                      · have HE : Hid (bstT d (nb A) ok pl dg (pn P) (i + 1) = some b) := HL1.out hgt
                        have t2 : decide (dg q < dg p) = false := by simp; omega
                        go_upto_region 25 with fail
                        go_quiet (fail)
                        go_wp2_with fail
                        go_roundw
                        case rel => exact ⟨i + 1, by omega, by go_num, by rw [HE.out]; rfl, hS4.drewN _⟩
                        case measure => simp [intOf]; omega
              · have ei : i = np := by omega
                subst i
                rename World => w17
                rw [HBB.out]
                cases hBc : BB with
                | none =>
                  have HBn : Hid (BB = none) := hBc
                  have htv0 : tv = 0 := by rw [← HTv.out, hBc]; rfl
                  have hbv0 : bv = false := by rw [← HBv.out, hBc]; rfl
                  clear hBc
                  subst tv
                  subst bv
                  simp only [bI]
                  go_wp2_with fail
                  refine (top_any _ (fun k => k ≠ g) (fun k => k ≠ g) n np (pn P) dg b6 b2 np n hM1.plc hM1.deg HPd.out (by omega) (by omega)).mono ?_
                  rintro e wt ⟨tz, rfl, htz, hwt⟩
                  subst wt
                  obtain rfl : t = tz := hTop.uniq htz (fun i hi => (HPd.out i hi).2)
                  clear htz
                  go_wp2_with fail
                  go_loopw [26, 27] (fun s26 s27 wr => ∃ i : Nat, i ≤ np ∧ s27 = .int .i64 i ∧ s26 = .int .i64 (wrap64 (s0 + ((sumN i (cstI d (nb A) ok pl dg (pn P) BB) : Nat) : Int))) ∧ ScS wm wr g n n (fun _ => false)) (fun _ i _ => np - (intOf i).toNat)
                  case atStart => exact ⟨0, Nat.zero_le _, rfl, by rw [wrap64_add]; congr 2; rw [← HS0.out]; simp [sumN]; omega, hS⟩
                  case round =>
                    obtain ⟨i, hi, rfl, rfl, hS2⟩ := hrel
                    have hM2 := hM.later hS2.ext
                    by_cases hil : i < np
                    · obtain ⟨bp6, offp6, rfl, _, hcp⟩ := hM2.plc i hil
                      have hpn := HPn.out i hil
                      obtain ⟨bpl, offpl, rfl, _, hcpl⟩ := hM2.scn.plr (pn P i) hpn
                      dsimp only at hcp hcpl
                      cases hplp : pl (pn P i) with
                      | true =>
                        simp only [hplp] at hcpl
                        have HC : Hid (cstI d (nb A) ok pl dg (pn P) BB i = 0) := by show _ = _; unfold cstI; rw [hplp]; rfl
                        clear hplp
                        generalize pn P i = p at *
                        go_wp2_with fail
                        go_roundw
                        case rel => exact ⟨i + 1, by omega, by go_num, by show _ = Value.int .i64 (wrap64 (s0 + ((sumN i (cstI d (nb A) ok pl dg (pn P) BB) + cstI d (nb A) ok pl dg (pn P) BB i : Nat) : Int))); rw [HC.out]; rfl, hS2⟩
                        case measure => simp [intOf]; omega
                      | false =>
                        simp only [hplp] at hcpl
                        have HPl0 : Hid (pl (pn P i) = false) := hplp
                        clear hplp
                        have HBf : befB (fun i => dg (pn P i)) BB i = true := by rw [HBn.out]; rfl
                        obtain ⟨p, hpi⟩ : ∃ p, pn P i = p := ⟨_, rfl⟩
                        have HPi : Hid (pn P i = p) := hpi
                        rw [hpi] at hcp hcpl hpn
                        clear hpi
                        go_upto_region 38 with fail
                        go_quiet (fail)
                        have HC : Hid (cstI d (nb A) ok pl dg (pn P) BB i = triC d (nb A) ok (pn P i)) := by
                          show _ = _
                          unfold cstI
                          rw [HPl0.out, HBf]; rfl
                        rw [HPi.out] at HC
                        clear HBf
                        go_wp2_with fail
                        refine (scan_any _ g (fun k => k ≠ g) n d (nb A) st pl ok b0 b1 _ n n n n p (hM2.later ((Ext.refl _ _).drewN _)).scn (hS2.own.drewN _) hpn (by omega)).mono ?_
                        rintro e wz ⟨rfl, hS3⟩
                        have hS4 := (hS2.drewN _).trans hS3
                        have HSum : Hid (wrap64 (wrap64 (s0 + ((sumN i (cstI d (nb A) ok pl dg (pn P) BB) : Nat) : Int)) + (triC d (nb A) ok p : Int)) = wrap64 (s0 + ((sumN (i + 1) (cstI d (nb A) ok pl dg (pn P) BB) : Nat) : Int))) := by
                          show _ = _
                          rw [wrap64_add]
                          show _ = wrap64 (s0 + ((sumN i (cstI d (nb A) ok pl dg (pn P) BB) + cstI d (nb A) ok pl dg (pn P) BB i : Nat) : Int))
                          rw [HC.out]; congr 1; omega
                        clear hS2 hS3 hM2 HC
                        generalize triC d (nb A) ok p = cc at *
                        generalize triB d (nb A) ok p = cb at *
                        go_wp2_with fail
                        go_roundw
                        case rel => exact ⟨i + 1, by omega, by go_num, by rw [← HSum.out], hS4⟩
                        case measure => simp [intOf]; omega
                    · have ei : i = np := by omega
                      subst i
                      rename World => w18
                      rw [HFin.out]
                      go_wp2_with fail
                      go_loop [32] (fun s32 => ∃ k : Nat, k ≤ n ∧ s32 = .int .i64 k) (fun i => n - (intOf i).toNat)
                      case atStart => exact ⟨0, Nat.zero_le _, rfl⟩
                      case round =>
                        obtain ⟨k, hk, rfl⟩ := hrel
                        by_cases hkl : k < n
                        · obtain ⟨bz, offz, rfl, _, hcz⟩ := hM2.sc k hkl
                          dsimp only at hcz
                          go_wp2_with fail
                          go_round
                          case rel => exact ⟨k + 1, by omega, by go_num⟩
                          case measure => simp [intOf]; omega
                        · go_wp2_with fail
                          go_ret
                          exact ⟨rfl, hxW.trans hS2.ext (fun k hk e => by omega)⟩
                | some bq =>
                  have HBs : Hid (BB = some bq) := hBc
                  have hbq : bq < np := HBn0.out bq (by rw [HBB.out, hBc])
                  have hqn := HPn.out bq hbq
                  obtain ⟨q, hqe⟩ : ∃ q, pn P bq = q := ⟨_, rfl⟩
                  have HPq : Hid (pn P bq = q) := hqe
                  have htv0 : tv = q := by rw [← HTv.out, hBc]; exact hqe
                  have hbv0 : bv = true := by rw [← HBv.out, hBc]; rfl
                  obtain ⟨bp6, offp6, rfl, _, hcp0⟩ := hM1.plc bq hbq
                  dsimp only at hcp0
                  rw [hqe] at hcp0 hqn
                  clear hBc hqe
                  subst tv
                  subst bv
                  have g5 : (bq : Int) < (np : Int) := by omega
                  have g6 : (0 : Int) ≤ (bq : Int) := by omega
                  have g7 : decide ((bq : Int) < 0) = false := by simp
                  simp only [bI]
                  go_wp2_with fail
                  refine (top_any _ (fun k => k ≠ g) (fun k => k ≠ g) n np (pn P) dg _ b2 np n hM1.plc hM1.deg HPd.out (by omega) (by omega)).mono ?_
                  rintro e wt ⟨tz, rfl, htz, hwt⟩
                  subst wt
                  obtain rfl : t = tz := hTop.uniq htz (fun i hi => (HPd.out i hi).2)
                  clear htz
                  go_wp2_with fail
                  go_loopw [26, 27] (fun s26 s27 wr => ∃ i : Nat, i ≤ np ∧ s27 = .int .i64 i ∧ s26 = .int .i64 (wrap64 (s0 + ((sumN i (cstI d (nb A) ok pl dg (pn P) BB) : Nat) : Int))) ∧ ScS wm wr g n n (fun _ => false)) (fun _ i _ => np - (intOf i).toNat)
                  case atStart => exact ⟨0, Nat.zero_le _, rfl, by rw [wrap64_add]; congr 2; rw [← HS0.out]; simp [sumN]; omega, hS⟩
                  case round =>
                    obtain ⟨i, hi, rfl, rfl, hS2⟩ := hrel
                    have hM2 := hM.later hS2.ext
                    by_cases hil : i < np
                    · obtain ⟨_, _, eP0, _, hcp⟩ := hM2.plc i hil
                      obtain ⟨rfl, rfl⟩ : bp6 = _ ∧ offp6 = _ := by simpa using eP0
                      clear eP0
                      have hpn := HPn.out i hil
                      obtain ⟨bpl, offpl, rfl, _, hcpl⟩ := hM2.scn.plr (pn P i) hpn
                      dsimp only at hcp hcpl
                      cases hplp : pl (pn P i) with
                      | true =>
                        simp only [hplp] at hcpl
                        have HC : Hid (cstI d (nb A) ok pl dg (pn P) BB i = 0) := by show _ = _; unfold cstI; rw [hplp]; rfl
                        clear hplp
                        generalize pn P i = p at *
                        go_wp2_with fail
                        go_roundw
                        case rel => exact ⟨i + 1, by omega, by go_num, by show _ = Value.int .i64 (wrap64 (s0 + ((sumN i (cstI d (nb A) ok pl dg (pn P) BB) + cstI d (nb A) ok pl dg (pn P) BB i : Nat) : Int))); rw [HC.out]; rfl, hS2⟩
                        case measure => simp [intOf]; omega
                      | false =>
                        simp only [hplp] at hcpl
                        have HPl0 : Hid (pl (pn P i) = false) := hplp
                        clear hplp
                        obtain ⟨p, hpi⟩ : ∃ p, pn P i = p := ⟨_, rfl⟩
                        have HPi : Hid (pn P i = p) := hpi
                        have hbf : befB (fun i => dg (pn P i)) BB i = (decide (i = bq) || (decide (dg q < dg p) || (decide (dg p = dg q) && decide (i < bq)))) := by rw [HBs.out]; unfold befB; simp only [hpi, HPq.out]
                        have HBF : Hid (befB (fun i => dg (pn P i)) BB i = (decide (i = bq) || (decide (dg q < dg p) || (decide (dg p = dg q) && decide (i < bq))))) := hbf
                        clear hbf
                        rw [hpi] at hcp hcpl hpn
                        clear hpi
                        obtain ⟨_, _, eP, _, hcq⟩ := hM2.plc bq hbq
                        obtain ⟨rfl, rfl⟩ : bp6 = _ ∧ offp6 = _ := by simpa using eP
                        clear eP
                        dsimp only at hcq
                        rw [HPq.out] at hcq
                        obtain ⟨bd, offd, rfl, _, hcd⟩ := hM2.deg p hpn
                        obtain ⟨_, _, eD, _, hcdq⟩ := hM2.deg q hqn
                        obtain ⟨rfl, rfl⟩ : bd = _ ∧ offd = _ := by simpa using eD
                        clear eD
                        dsimp only at hcd hcdq
                        have g1 : (p : Int) < (n : Int) := by omega
                        have g2 : (0 : Int) ≤ (p : Int) := by omega
                        have g3 : (q : Int) < (n : Int) := by omega
                        have g4 : (0 : Int) ≤ (q : Int) := by omega
                        have g5 : (bq : Int) < (np : Int) := by omega
                        have g6 : (0 : Int) ≤ (bq : Int) := by omega
                        have g7 : decide ((bq : Int) < 0) = false := by simp
                        go_upto_region 38 with fail
                        by_cases hib : i = bq
                        · subst hib
                          have HBf : befB (fun i => dg (pn P i)) BB i = true := by rw [HBF.out]; simp
                          have t1 : ((i : Int) == (i : Int)) = true := by simp
                          go_quiet (fail)
                          have HC : Hid (cstI d (nb A) ok pl dg (pn P) BB i = triC d (nb A) ok (pn P i)) := by
                            show _ = _
                            unfold cstI
                            rw [HPl0.out, HBf]; rfl
                          rw [HPi.out] at HC
                          clear HBf
                          go_wp2_with fail
                          refine (scan_any _ g (fun k => k ≠ g) n d (nb A) st pl ok b0 b1 _ n n n n p (hM2.later ((Ext.refl _ _).drewN _)).scn (hS2.own.drewN _) hpn (by omega)).mono ?_
                          rintro e wz ⟨rfl, hS3⟩
                          have hS4 := (hS2.drewN _).trans hS3
                          have HSum : Hid (wrap64 (wrap64 (s0 + ((sumN i (cstI d (nb A) ok pl dg (pn P) BB) : Nat) : Int)) + (triC d (nb A) ok p : Int)) = wrap64 (s0 + ((sumN (i + 1) (cstI d (nb A) ok pl dg (pn P) BB) : Nat) : Int))) := by
                            show _ = _
                            rw [wrap64_add]
                            show _ = wrap64 (s0 + ((sumN i (cstI d (nb A) ok pl dg (pn P) BB) + cstI d (nb A) ok pl dg (pn P) BB i : Nat) : Int))
                            rw [HC.out]; congr 1; omega
                          clear hS2 hS3 hM2 HC
                          generalize triC d (nb A) ok p = cc at *
                          generalize triB d (nb A) ok p = cb at *
                          go_wp2_with fail
                          go_roundw
                          case rel => exact ⟨i + 1, by omega, by go_num, by rw [← HSum.out], hS4⟩
                          case measure => simp [intOf]; omega
                        · have t1 : ((i : Int) == (bq : Int)) = false := by rw [beq_eq_false_iff_ne]; omega
                          by_cases hgt : dg q < dg p
                          · have HBf : befB (fun i => dg (pn P i)) BB i = true := by rw [HBF.out]; simp [hgt]
                            have t2 : decide (dg q < dg p) = true := by simp [hgt]
                            go_quiet (fail)
                            have HC : Hid (cstI d (nb A) ok pl dg (pn P) BB i = triC d (nb A) ok (pn P i)) := by
                              show _ = _
                              unfold cstI
                              rw [HPl0.out, HBf]; rfl
                            rw [HPi.out] at HC
                            clear HBf
                            go_wp2_with fail
                            refine (scan_any _ g (fun k => k ≠ g) n d (nb A) st pl ok b0 b1 _ n n n n p (hM2.later ((Ext.refl _ _).drewN _)).scn (hS2.own.drewN _) hpn (by omega)).mono ?_
                            rintro e wz ⟨rfl, hS3⟩
                            have hS4 := (hS2.drewN _).trans hS3
                            have HSum : Hid (wrap64 (wrap64 (s0 + ((sumN i (cstI d (nb A) ok pl dg (pn P) BB) : Nat) : Int)) + (triC d (nb A) ok p : Int)) = wrap64 (s0 + ((sumN (i + 1) (cstI d (nb A) ok pl dg (pn P) BB) : Nat) : Int))) := by
                              show _ = _
                              rw [wrap64_add]
                              show _ = wrap64 (s0 + ((sumN i (cstI d (nb A) ok pl dg (pn P) BB) + cstI d (nb A) ok pl dg (pn P) BB i : Nat) : Int))
                              rw [HC.out]; congr 1; omega
                            clear hS2 hS3 hM2 HC
                            generalize triC d (nb A) ok p = cc at *
                            generalize triB d (nb A) ok p = cb at *
                            go_wp2_with fail
                            go_roundw
                            case rel => exact ⟨i + 1, by omega, by go_num, by rw [← HSum.out], hS4⟩
                            case measure => simp [intOf]; omega
                          · have t2 : decide (dg q < dg p) = false := by simp; omega
                            by_cases heq : dg p = dg q
                            · have t3 : (dg p == dg q) = true := by rw [beq_iff_eq]; exact heq
                              by_cases hlt : i < bq
                              · have HBf : befB (fun i => dg (pn P i)) BB i = true := by rw [HBF.out]; simp [heq, hlt]
                                have t4 : decide ((i : Int) < (bq : Int)) = true := by simp; omega
                                clear heq
                                go_quiet (fail)
                                have HC : Hid (cstI d (nb A) ok pl dg (pn P) BB i = triC d (nb A) ok (pn P i)) := by
                                  show _ = _
                                  unfold cstI
                                  rw [HPl0.out, HBf]; rfl
                                rw [HPi.out] at HC
                                clear HBf
                                go_wp2_with fail
                                refine (scan_any _ g (fun k => k ≠ g) n d (nb A) st pl ok b0 b1 _ n n n n p (hM2.later ((Ext.refl _ _).drewN _)).scn (hS2.own.drewN _) hpn (by omega)).mono ?_
                                rintro e wz ⟨rfl, hS3⟩
                                have hS4 := (hS2.drewN _).trans hS3
                                have HSum : Hid (wrap64 (wrap64 (s0 + ((sumN i (cstI d (nb A) ok pl dg (pn P) BB) : Nat) : Int)) + (triC d (nb A) ok p : Int)) = wrap64 (s0 + ((sumN (i + 1) (cstI d (nb A) ok pl dg (pn P) BB) : Nat) : Int))) := by
                                  show _ = _
                                  rw [wrap64_add]
                                  show _ = wrap64 (s0 + ((sumN i (cstI d (nb A) ok pl dg (pn P) BB) + cstI d (nb A) ok pl dg (pn P) BB i : Nat) : Int))
                                  rw [HC.out]; congr 1; omega
                                clear hS2 hS3 hM2 HC
                                generalize triC d (nb A) ok p = cc at *
                                generalize triB d (nb A) ok p = cb at *
                                go_wp2_with fail
                                go_roundw
                                case rel => exact ⟨i + 1, by omega, by go_num, by rw [← HSum.out], hS4⟩
                                case measure => simp [intOf]; omega
                              · have HBf : befB (fun i => dg (pn P i)) BB i = false := by rw [HBF.out]; simp [hib, hgt, hlt]
                                have t4 : decide ((i : Int) < (bq : Int)) = false := by simp; omega
                                clear heq
                                go_quiet (fail)
                                have HC : Hid (cstI d (nb A) ok pl dg (pn P) BB i = 0) := by
                                  show _ = _
                                  unfold cstI
                                  rw [HPl0.out, HBf]; rfl
                                clear HBf
                                go_wp2_with fail
                                go_roundw
                                case rel => exact ⟨i + 1, by omega, by go_num, by show _ = Value.int .i64 (wrap64 (s0 + ((sumN i (cstI d (nb A) ok pl dg (pn P) BB) + cstI d (nb A) ok pl dg (pn P) BB i : Nat) : Int))); rw [HC.out]; rfl, hS2.drewN _⟩
                                case measure => simp [intOf]; omega
                            · have t3 : (dg p == dg q) = false := by rw [beq_eq_false_iff_ne]; exact heq
                              have HBf : befB (fun i => dg (pn P i)) BB i = false := by rw [HBF.out]; simp [hib, hgt, heq]
                              go_quiet (fail)
                              have HC : Hid (cstI d (nb A) ok pl dg (pn P) BB i = 0) := by
                                show _ = _
                                unfold cstI
                                rw [HPl0.out, HBf]; rfl
                              clear HBf
                              go_wp2_with fail
                              go_roundw
                              case rel => exact ⟨i + 1, by omega, by go_num, by show _ = Value.int .i64 (wrap64 (s0 + ((sumN i (cstI d (nb A) ok pl dg (pn P) BB) + cstI d (nb A) ok pl dg (pn P) BB i : Nat) : Int))); rw [HC.out]; rfl, hS2.drewN _⟩
                              case measure => simp [intOf]; omega
                    · have ei : i = np := by omega
                      subst i
                      rename World => w18
                      rw [HFin.out]
                      go_wp2_with fail
                      go_loop [32] (fun s32 => ∃ k : Nat, k ≤ n ∧ s32 = .int .i64 k) (fun i => n - (intOf i).toNat)
                      case atStart => exact ⟨0, Nat.zero_le _, rfl⟩
                      case round =>
                        obtain ⟨k, hk, rfl⟩ := hrel
                        by_cases hkl : k < n
                        · obtain ⟨bz, offz, rfl, _, hcz⟩ := hM2.sc k hkl
                          dsimp only at hcz
                          go_wp2_with fail
                          go_round
                          case rel => exact ⟨k + 1, by omega, by go_num⟩
                          case measure => simp [intOf]; omega
                        · go_wp2_with fail
                          go_ret
                          exact ⟨rfl, hxW.trans hS2.ext (fun k hk e => by omega)⟩
        · have e1 : ((nl : Int) != (n : Int)) = true := by rw [bne_iff_ne]; omega
          go_wp2_with fail
          go_ret
          exact ⟨rfl, Ext.refl _ _⟩
      · clear hab
        go_wp2_with fail
        go_ret
        exact ⟨rfl, Ext.refl _ _⟩
    · by_cases hl1 : ns ≤ 1048576
      · have b1 : decide ((1048576 : Int) < (ns : Int)) = false := by simp; omega
        by_cases hl2 : nd ≤ 131072
        · have b2 : decide ((131072 : Int) < (nd : Int)) = false := by simp; omega
          by_cases hl4 : nsc ≤ 131072
          · have b4 : decide ((131072 : Int) < (nsc : Int)) = false := by simp; omega
            by_cases hl5 : nl ≤ 1048576
            · have b5 : decide ((1048576 : Int) < (nl : Int)) = false := by simp; omega
              have b6 : decide ((4096 : Int) < (np : Int)) = true := by simp; omega
              go_wp2_with fail
              go_ret
              exact ⟨rfl, Ext.refl _ _⟩
            · have b5 : decide ((1048576 : Int) < (nl : Int)) = true := by simp; omega
              go_wp2_with fail
              go_ret
              exact ⟨rfl, Ext.refl _ _⟩
          · have b4 : decide ((131072 : Int) < (nsc : Int)) = true := by simp; omega
            go_wp2_with fail
            go_ret
            exact ⟨rfl, Ext.refl _ _⟩
        · have b2 : decide ((131072 : Int) < (nd : Int)) = true := by simp; omega
          go_wp2_with fail
          go_ret
          exact ⟨rfl, Ext.refl _ _⟩
      · have b1 : decide ((1048576 : Int) < (ns : Int)) = true := by simp; omega
        go_wp2_with fail
        go_ret
        exact ⟨rfl, Ext.refl _ _⟩
end Go.Proofs.Qxb6601557a
