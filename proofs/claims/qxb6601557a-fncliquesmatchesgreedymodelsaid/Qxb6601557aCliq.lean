/-
  cliques: the walk. By an AI agent.
-/
import Derived.Test.Qxb6601557aCliqA
namespace Go.Proofs.Qxb6601557a
set_option linter.unusedVariables false
open Go.RowKit

set_option maxHeartbeats 4000000 in
set_option maxRecDepth 100000 in
theorem cliques_any (w : World) (bs bsc : Nat) (S : Nat → Prop) (v : Nat → Value) (n : Nat) (d : Nat → Nat) (N : Nat → Nat → Nat) (st dg : Nat → Int) (ap : Option Addr) (np cpp : Nat) (P : Nat → Nat) (asc : Option Addr) (csc : Nat) (steps : Int)
    (hin : CliIn w bs bsc S v n d N st dg ap np P asc csc) (hv4 : v 4 = .int .i64 steps) (hn : n ≤ 131072) (hnp : np ≤ 4096) :
    Calls Try.prog 42 #[.pointer (some ⟨bs, 0, none⟩), .slice ap np cpp] w fun e w' => ∃ t O aC capC, e = .returned (.slice aC (runC d N O np).nc capC) ∧ CliOut w w' bs bsc v n d N dg np P asc csc steps t O aC capC := by
  go_enter Try.func42, Try.ntmps42
  go_wp2_with fail
  refine (deg_any w bs S v n dg ap np cpp P steps hin.degIn hv4 hn (by omega)).mono ?_
  rintro e w1 ⟨q, t, Q, rfl, hD⟩
  -- the order, as numbers
  have hQ : ∀ j, j < np → ∃ i, i < np ∧ Q j = P i := by
    intro j hj
    obtain ⟨i, hi, e⟩ := rk_onto (K := keyOf t dg P) hj
    exact ⟨i, hi, by rw [← e]; exact hD.laid i hi⟩
  obtain ⟨O, hOQ⟩ : ∃ O : Nat → Nat, ∀ j, O j = (Q j).toNat := ⟨_, fun _ => rfl⟩
  have hOrd : OrdOk np dg P t O := ⟨hD.top, fun i hi => by rw [hOQ, hD.laid i hi]; simp⟩
  have hord : Rd (fun k => k = q) w1 (some ⟨q, 0, none⟩) np (fun j => .int .i64 (O j : Int)) :=
    (hD.own.congr (fun j hj => by obtain ⟨i, hi, e⟩ := hQ j hj; rw [hOQ, e]; simp)).rd
  have hql : q < w1.heap.size := hD.own.head_lt
  have hqw : w.heap.size ≤ q := hD.lo
  have hbs : bs < w.heap.size := hin.str.head_lt
  have hw1 : w.heap.size ≤ w1.heap.size := hD.ext.size
  have hOinj : ∀ i j, i < np → j < np → O i = O j → i = j := hOrd.inj hin.pinj
  have hOok : ∀ m, m < np → O m < n ∧ st (O m) = 0 := by
    intro m hm
    obtain ⟨i, hi, _, e⟩ := hOrd.mem m hm
    rw [e]
    exact ⟨(hin.ok i hi).1, (hin.ok i hi).2.2.2⟩
  obtain ⟨aa, ca, hv0, hadj⟩ := hin.adj
  obtain ⟨asta, csta, hv1, hsta⟩ := hin.sta
  have hadj1 := hadj.ext hD.ext (fun k hk => (hin.out k hk).1)
  have hsta1 := hsta.ext hD.ext (fun k hk => (hin.out k hk).1)
  have hpl1 := hin.pl.ext hD.ext (fun k hk => (hin.out k hk).1)
  have hne := hin.ne
  have hbc : bsc < w.heap.size := hin.bsc
  have hstart : CliS w1 w1 bs bsc v n asc csc (wrap64 (steps + (2 * np + t) + sumD d O 0)) (whC d N O 0) :=
    ⟨Ext.refl _ _, hD.str.congr (fun j _ => by simp [sumD]), hin.sc.ext hD.ext (fun k hk e => hne (by omega))⟩
  have HOinj : Hid (∀ i j, i < np → j < np → O i = O j → i = j) := hOinj
  have HOok : Hid (∀ m, m < np → O m < n ∧ st (O m) = 0) := hOok
  have HV0 : Hid (v 0 = .slice aa n ca) := hv0
  have HV1 : Hid (v 1 = .slice asta n csta) := hv1
  have HV4 : Hid (v 4 = .int .i64 steps) := hv4
  have HV11 : Hid (v 11 = .slice asc n csc) := hin.v11
  have HOrd : Hid (OrdOk np dg P t O) := hOrd
  have hgr := hin.gr
  have hext0 := hD.ext
  have hout := hin.out
  have HOut : Hid (∀ k, S k → k ≠ bs ∧ k ≠ bsc) := hout
  clear hOinj hOok hv0 hv1 hv4 hadj hsta hQ hOQ hOrd hD hout
  go_wp2_with fail
  go_loopw [5, 6, 7, 23] (fun s5 s6 s7 s23 wr => ∃ (m : Nat) (tag : Nat → Nat) (aC : Option Addr) (capC : Nat) (R : Nat → Option Addr) (cp : Nat → Nat) (aN : Option Addr) (capN : Nat) (aM : Option Addr) (capM : Nat) (mt : Nat → Nat),
      m ≤ np ∧ s23 = .int .i64 m ∧ s5 = .slice aC (runC d N O m).nc capC ∧ s6 = .slice aN (runC d N O m).nc capN ∧ s7 = .slice aM 0 capM ∧
      CliS w1 wr bs bsc v n asc csc (wrap64 (steps + (2 * np + t) + sumD d O m)) (whC d N O m) ∧
      CQ w1 wr tag aC (runC d N O m).nc capC R (runC d N O m).sz cp (runC d N O m).el aN (runC d N O m).nc capN (fun _ => 0) aM 0 capM mt ∧
      Hid ((runC d N O m).nc = 0 → aC = none)) (fun _ _ _ i _ => np - (intOf i).toNat)
  case atStart =>
    exact ⟨0, fun _ => 0, none, 0, fun _ => none, fun _ => 0, none, 0, none, 0, fun _ => 0, Nat.zero_le _, rfl, rfl, rfl, rfl, hstart,
      ⟨Own.nil, fun c hc => absurd hc (Nat.not_lt_zero c), Own.nil, Own.nil, Nat.le_refl _⟩, fun _ => rfl⟩
  case round =>
    clear hstart
    obtain ⟨m, tag, aC, capC, R, cp, aN, capN, aM, capM, mt, hm, rfl, rfl, rfl, rfl, hS, hQ, hnil⟩ := hrel
    by_cases hlt : m < np
    · obtain ⟨hpn, hpst⟩ := HOok.out m hlt
      have hI : CInv d N O m (runC d N O m) (whC d N O m) := cinv_run d N O np HOinj.out m hm
      have HRun : Hid (runC d N O (m + 1) = stepC d N (runC d N O m) (O m)) := rfl
      have HWh : Hid (whC d N O (m + 1) = upd1 (whC d N O m) (O m) (joinOf d N (runC d N O m) (O m) + 1)) := rfl
      have HSum : Hid (sumD d O (m + 1) = sumD d O m + d (O m)) := rfl
      generalize runC d N O m = s at *
      generalize whC d N O m = wh at *
      generalize sumD d O m = sd at *
      obtain ⟨bo, offo, eo, _, hco⟩ := (hord.ext hS.ext (fun k hk e => by omega)) m hlt
      obtain ⟨rfl, rfl⟩ : q = bo ∧ 0 = offo := by simpa using eo
      clear eo
      simp only [Nat.zero_add] at hco
      have hHp : Hid (O m = O m) := rfl
      generalize hpp : O m = p at *
      have HP : Hid (O m = p) := hpp
      clear hpp hHp
      obtain ⟨b, off, ra, rc, rfl, hSb, hcell1, hdm, hrow1⟩ := hadj1 p hpn
      have hbne := HOut.out b hSb
      have hcell := cell_ext hcell1 hS.ext (show ¬ (b = bs ∨ b = bsc) by omega)
      have hf0 := hS.field 0 (by omega) (by omega)
      rw [HV0.out] at hf0
      have hdp := hgr.dle p hpn
      go_wp2_with fail
      have HQ0 : CQ w1 wr tag (aC) s.nc capC R s.sz cp s.el aN s.nc capN (cnM N wh p 0) aM 0 capM mt := ⟨hQ.outer, hQ.rows, hQ.cnts.congr (fun c _ => rfl), hQ.met, hQ.size⟩
      have HM0 : MetOk s.nc 0 mt (cnM N wh p 0) := MetOk.zero (fun c _ => rfl)
      rename World => wa
      go_loopw [7, 35] (fun s7 s35 wr => ∃ (i nm capM : Nat) (tag : Nat → Nat) (aM : Option Addr) (mt : Nat → Nat), i ≤ d p ∧ s35 = .int .i64 i ∧ s7 = .slice aM nm capM ∧
          CliS w1 wr bs bsc v n asc csc (wrap64 (steps + (2 * np + t) + sd)) wh ∧ CQ w1 wr tag aC s.nc capC R s.sz cp s.el aN s.nc capN (cnM N wh p i) aM nm capM mt ∧ MetOk s.nc nm mt (cnM N wh p i)) (fun _ i _ => d p - (intOf i).toNat)
      case atStart => exact ⟨0, 0, capM, tag, aM, mt, Nat.zero_le _, rfl, rfl, hS, HQ0, HM0⟩
      case round =>
        clear HQ0 HM0 hQ
        obtain ⟨i, nm, capM2, tag2, aM2, mt2, hi, rfl, rfl, hS2, hQ2, hM2⟩ := hrel
        by_cases hil : i < d p
        · have hNn := hgr.lt p hpn i hil
          obtain ⟨b2, off2, rfl, _, hc2⟩ := (hrow1.ext hS2.ext (fun k hk e => by have := HOut.out k hk; omega)) i hil
          have HN : Hid (N p i = N p i) := rfl
          have hHit := fun x (h : wh (N p i) = x + 1) => cnM_hit (N := N) (p := p) h
          have hSkip := fun (h : wh (N p i) = 0) c => cnM_skip (N := N) (p := p) h c
          have hstq : wh (N p i) ≠ 0 → st (N p i) = 0 := by
            intro h
            obtain ⟨k, hk, e⟩ := hI.whk _ h
            rw [e]; exact (HOok.out k (by omega)).2
          have hwle := hI.whle (N p i)
          have HHit : Hid (∀ x, wh (N p i) = x + 1 → cnM N wh p (i + 1) = upd (cnM N wh p i) x (cnM N wh p i x + 1)) := hHit
          have HSkip : Hid (wh (N p i) = 0 → ∀ c, cnM N wh p (i + 1) c = cnM N wh p i c) := hSkip
          have HSt : Hid (wh (N p i) ≠ 0 → st (N p i) = 0) := hstq
          clear hHit hSkip hstq HN
          obtain ⟨rfl, hcsc, _, _⟩ := hS2.scAt hne (N p i) hNn
          obtain ⟨bst, offst, rfl, _, hcst⟩ := (hsta1.ext hS2.ext (fun k hk e => by have := HOut.out k hk; omega)) (N p i) hNn
          have hf1 := hS2.field 1 (by omega) (by omega)
          rw [HV1.out] at hf1
          have hf11 := hS2.field 11 (by omega) (by omega)
          rw [HV11.out] at hf11
          dsimp only at hc2 hcst hcsc
          generalize N p i = r at *
          cases hwr : wh r with
          | zero =>
            simp only [hwr] at hcsc
            have HE : Hid (cnM N wh p (i + 1) = cnM N wh p i) := funext (HSkip.out hwr)
            clear hwr
            go_wp2_with fail
            go_roundw
            case rel => exact ⟨i + 1, nm, capM2, tag2, aM2, mt2, by omega, by go_num, rfl, hS2, by rw [HE.out]; exact hQ2, by rw [HE.out]; exact hM2⟩
            case measure => simp [intOf]; omega
          | succ x =>
            have hst0 := HSt.out (by omega)
            simp only [hwr] at hcsc
            simp only [hst0] at hcst
            have hx : x < s.nc := by omega
            have HH : Hid (cnM N wh p (i + 1) = upd (cnM N wh p i) x (cnM N wh p i x + 1)) := HHit.out x hwr
            have hyd : cnM N wh p i x ≤ i := cnt_le _ _
            have hnm := hM2.nm_le
            have hncm := hI.ncle
            have HBW : Hid (bs < w1.heap.size ∧ bsc < w1.heap.size) := ⟨by omega, by omega⟩
            clear hwr HSt HSkip HHit
            by_cases hy0 : cnM N wh p i x = 0
            · obtain ⟨gN, rfl, hgN, hcN, hfN, hputN⟩ := hQ2.cntAt x hx
              have HM3 := hM2.new hx hy0
              rw [← HH.out] at HM3
              simp only [hy0] at hcN
              clear hfN hputN
              go_wp2_with (at_builtin; refine wpList_app _ rfl (.tmp 64) (.tmp 66) 24 rfl 3 (.int .i64 0) 8 Try.underlying24 info3 rfl (Tg w1 tag2 1) aM2 nm capM2 (fun j => .int .i64 (mt2 j : Int)) rfl (hQ2.met.alloc _) ⟨wr.heap.size, 0, none⟩ 1 (.int .i64 (x : Int)) rfl (by simp) rfl (by omega) (by omega) ?_)
              intro aM3 capM3 w3 hown3 hx3 hsz3
              have hQ3 := hQ2.metApp ((Ext.refl _ wr).alloc _) (by simp) hown3 hx3
              have hS3 := hS2.later (((Ext.refl (fun k => w1.heap.size ≤ k) wr).alloc _).trans hx3 (fun k hk h => h.2)) (fun k hk h => by omega) HBW.out.1 HBW.out.2
              obtain ⟨g', eg, hg', hcN3, hfN3, hput3⟩ := hQ3.cntAt x hx
              obtain rfl : gN = g' := by simpa using eg
              clear eg
              have HP3 := hput3 (cnM N wh p i x + 1)
              rw [← HH.out] at HP3
              have hS4 := hS3.later ((Ext.refl (fun k => k = gN) w3).setCell (p := ⟨gN, x, none⟩) (fun _ => rfl) (.int .i64 ((cnM N wh p i x + 1 : Nat) : Int))) (fun k hk h => by omega) HBW.out.1 HBW.out.2
              simp only [hy0, Nat.zero_add] at hcN3 HP3 hS4
              clear hown3 hx3 hsz3 hQ3 hS3 hput3 hQ2 hS2 hM2 hcN hcsc hc2 hcst hf1 hf11
              go_wp2_with fail
              go_roundw
              case rel => exact ⟨i + 1, nm + 1, capM3, _, aM3, _, by omega, by go_num, rfl, hS4, HP3, HM3⟩
              case measure => simp [intOf]; omega
            · obtain ⟨gN, rfl, hgN, hcN, hfN, hputN⟩ := hQ2.cntAt x hx
              have HM3 := hM2.more (x := x) (by omega)
              rw [← HH.out] at HM3
              have HP3 := hputN (cnM N wh p i x + 1)
              rw [← HH.out] at HP3
              have hS4 := hS2.later ((Ext.refl (fun k => k = gN) wr).setCell (p := ⟨gN, x, none⟩) (fun _ => rfl) (.int .i64 ((cnM N wh p i x + 1 : Nat) : Int))) (fun k hk h => by omega) HBW.out.1 HBW.out.2
              have hy1 : ((cnM N wh p i x : Int) == 0) = false := by rw [beq_eq_false_iff_ne]; omega
              clear hputN HH
              generalize cnM N wh p i x = y at *
              go_wp2_with fail
              go_roundw
              case rel => exact ⟨i + 1, nm, capM2, tag2, aM2, mt2, by omega, by go_num, rfl, hS4, HP3, HM3⟩
              case measure => simp [intOf]; omega
        · have ei : i = d p := by omega
          subst i
          rename World => wb
          have hfit := cnM_fit hgr hI (fun a b ha hb => HOinj.out a b (by omega) (by omega)) hpn
          have HFit : Hid (∀ c, decide (cnM N wh p (d p) c = s.sz c) = fitB d N s p c) := hfit
          have hpos := hI.pos
          have HPos : Hid (∀ c, c < s.nc → 0 < s.sz c) := hpos
          have hszm := hI.sz_le (fun a b ha hb => HOinj.out a b (by omega) (by omega)) (fun k hk => (HOok.out k (by omega)).1)
          have HSz : Hid (∀ c, s.sz c ≤ n) := hszm
          clear hszm
          clear hfit hpos
          generalize cnM N wh p (d p) = cn at *
          obtain ⟨hc4, hf4, hput4⟩ := hS2.steps hne
          have HS3 := hput4 (wrap64 (wrap64 (steps + (2 * np + t) + sd) + d p))
          have hQ3 := hQ2.ext ((Ext.refl (fun k => k = bs) wb).setCell (p := ⟨bs, 4, none⟩) (fun _ => rfl) (.int .i64 (wrap64 (wrap64 (steps + (2 * np + t) + sd) + d p)))) (fun k hk e => by omega)
          have hf0' := hS2.field 0 (by omega) (by omega)
          rw [HV0.out] at hf0'
          have hcell' := cell_ext hcell1 hS2.ext (show ¬ (b = bs ∨ b = bsc) by omega)
          have gpn : (p : Int) < (n : Int) := by omega
          have gp0 : (0 : Int) ≤ (p : Int) := by omega
          clear hput4
          go_wp2_with fail
          go_region
          go_wp2_with fail
          have HZ : CQ w1 (wb.setCell ⟨bs, 4, none⟩ (.int .i64 (wrap64 (wrap64 (steps + (2 * np + t) + sd) + d p)))).drew tag2 aC s.nc capC R s.sz cp s.el aN s.nc capN (cnZ mt2 cn 0) aM2 nm capM2 mt2 := by
            rw [cnZ_zero]; exact ⟨hQ3.outer.drew, fun c hc => (hQ3.rows c hc).drew, hQ3.cnts.drew, hQ3.met.drew, hQ3.size⟩
          have HS4 := HS3.drew
          have hnm := hM2.nm_le
          have hncm := hI.ncle
          clear hc4 hf4 HS3 hQ3 hQ2 hS2 hf0' hcell'
          generalize hsx : wrap64 (wrap64 (steps + (2 * np + t) + sd) + d p) = sx at *
          have HSx : Hid (wrap64 (wrap64 (steps + (2 * np + t) + sd) + d p) = sx) := hsx
          clear hsx
          go_loopw [13, 92] (fun s13 s92 wr => ∃ (j : Nat) (jo : Option Nat) (jz : Int), j ≤ nm ∧ s92 = .int .i64 j ∧ s13 = .int .i64 jz ∧ Hid (jz = joZ jo) ∧
              CliS w1 wr bs bsc v n asc csc sx wh ∧ CQ w1 wr tag2 aC s.nc capC R s.sz cp s.el aN s.nc capN (cnZ mt2 cn j) aM2 nm capM2 mt2 ∧ BestM (fitB d N s p) s.sz mt2 j jo) (fun _ i _ => nm - (intOf i).toNat)
          case atStart => exact ⟨0, none, -1, Nat.zero_le _, rfl, rfl, rfl, HS4, HZ, BestM.zero _ _ _⟩
          case round =>
            clear HZ HS4
            obtain ⟨j, jo, jz, hj, rfl, rfl, hjz, hS5, hQ5, hB5⟩ := hrel
            by_cases hjl : j < nm
            · have hcl := hM2.lt j hjl
              have hfj := HFit.out (mt2 j)
              obtain ⟨gM, rfl, hcM⟩ := hQ5.metAt j hjl
              obtain ⟨gC, rfl, hgC, hcC⟩ := hQ5.outAt (mt2 j) hcl
              obtain ⟨gN, rfl, hgN, hcN, hfN, hputN⟩ := hQ5.cntAt (mt2 j) hcl
              rw [cnZ_at hM2 hjl] at hcN
              have HQ6 := hputN 0
              rw [← cnZ_succ] at HQ6
              have HS6 := hS5.later ((Ext.refl (fun k => k = gN) wr).setCell (p := ⟨gN, mt2 j, none⟩) (fun _ => rfl) (.int .i64 ((0 : Nat) : Int))) (fun k hk h => by omega) (by omega) (by omega)
              have hszj := HSz.out (mt2 j)
              simp only [Int.natCast_zero] at HQ6 HS6
              clear hputN
              by_cases hfc : cn (mt2 j) = s.sz (mt2 j)
              · have hft : fitB d N s p (mt2 j) = true := by rw [← hfj]; simpa using hfc
                have e1 : ((cn (mt2 j) : Int) == (s.sz (mt2 j) : Int)) = true := by rw [beq_iff_eq]; omega
                cases jo with
                | none =>
                  obtain rfl : jz = -1 := hjz.out
                  have HB6 := BestM.first hB5 hft
                  clear hft hfj hfc hjz
                  generalize mt2 j = c at *
                  generalize cn c = y at *
                  generalize s.sz c = sc at *
                  go_wp2_with fail
                  go_roundw
                  case rel => exact ⟨j + 1, some c, _, by omega, by go_num, rfl, rfl, HS6, HQ6, HB6⟩
                  case measure => simp [intOf]; omega
                | some b' =>
                  obtain rfl : jz = (b' : Int) := hjz.out
                  have hbl : b' < s.nc := by obtain ⟨⟨i, hi, e⟩, _⟩ := hB5; rw [← e]; exact hM2.lt i (by omega)
                  obtain ⟨gC', eC, _, hcB⟩ := hQ5.outAt b' hbl
                  obtain rfl : gC = gC' := by simpa using eC
                  have hszb := HSz.out b'
                  clear eC
                  by_cases hbt : s.sz b' < s.sz (mt2 j) ∨ (s.sz (mt2 j) = s.sz b' ∧ mt2 j < b')
                  · have HB6 := BestM.better hB5 hft hbt
                    clear hft hfj hfc hjz
                    generalize mt2 j = c at *
                    generalize cn c = y at *
                    by_cases hb1 : s.sz b' < s.sz c
                    · generalize s.sz c = sc at *
                      generalize s.sz b' = sb at *
                      go_wp2_with fail
                      go_roundw
                      case rel => exact ⟨j + 1, some c, _, by omega, by go_num, rfl, rfl, HS6, HQ6, HB6⟩
                      case measure => simp [intOf]; omega
                    · have hb2 : s.sz c = s.sz b' := by omega
                      have hb3 : c < b' := by omega
                      have e2 : ((s.sz c : Int) == (s.sz b' : Int)) = true := by rw [beq_iff_eq]; omega
                      have HX : Hid (s.sz c = s.sz b') := hb2
                      clear hb2 hbt
                      generalize s.sz c = sc at *
                      generalize s.sz b' = sb at *
                      go_wp2_with fail
                      go_roundw
                      case rel => exact ⟨j + 1, some c, _, by omega, by go_num, rfl, rfl, HS6, HQ6, HB6⟩
                      case measure => simp [intOf]; omega
                  · have HB6 := BestM.stay hB5 hbt
                    clear hft hfj hfc hjz
                    generalize mt2 j = c at *
                    generalize cn c = y at *
                    have hb1 : ¬ s.sz b' < s.sz c := by omega
                    by_cases hb2 : s.sz c = s.sz b'
                    · have hb3 : ¬ c < b' := by omega
                      have e2 : ((s.sz c : Int) == (s.sz b' : Int)) = true := by rw [beq_iff_eq]; omega
                      have e3 : decide ((c : Int) < (b' : Int)) = false := by simp; omega
                      have e4 : decide ((s.sz b' : Int) < (s.sz c : Int)) = false := by simp; omega
                      clear hb2 hbt
                      generalize s.sz c = sc at *
                      generalize s.sz b' = sb at *
                      go_wp2_with fail
                      go_roundw
                      case rel => exact ⟨j + 1, some b', _, by omega, by go_num, rfl, rfl, HS6, HQ6, HB6⟩
                      case measure => simp [intOf]; omega
                    · have e2 : ((s.sz c : Int) == (s.sz b' : Int)) = false := by rw [beq_eq_false_iff_ne]; omega
                      have e4 : decide ((s.sz b' : Int) < (s.sz c : Int)) = false := by simp; omega
                      clear hb2 hbt
                      generalize s.sz c = sc at *
                      generalize s.sz b' = sb at *
                      go_wp2_with fail
                      go_roundw
                      case rel => exact ⟨j + 1, some b', _, by omega, by go_num, rfl, rfl, HS6, HQ6, HB6⟩
                      case measure => simp [intOf]; omega
              · have hft : fitB d N s p (mt2 j) = false := by rw [← hfj]; simpa using hfc
                have e1 : ((cn (mt2 j) : Int) == (s.sz (mt2 j) : Int)) = false := by rw [beq_eq_false_iff_ne]; omega
                have HB6 := BestM.skip hB5 hft
                clear hft hfj hfc
                generalize mt2 j = c at *
                generalize cn c = y at *
                generalize s.sz c = sc at *
                go_wp2_with fail
                go_roundw
                case rel => exact ⟨j + 1, jo, _, by omega, by go_num, rfl, hjz, HS6, HQ6, HB6⟩
                case measure => simp [intOf]; omega
            · -- BEGINTAIL
              have ej : j = nm := by omega
              subst j
              rename World => wc
              have hjoin := hB5.joinOf hM2 HFit.out HPos.out
              have HJ : Hid (joinOf d N s p = jo.getD s.nc) := hjoin
              clear hjoin
              have hQ6 : CQ w1 wc tag2 aC s.nc capC R s.sz cp s.el aN s.nc capN (fun _ => 0) aM2 0 capM2 mt2 :=
                ⟨hQ5.outer, hQ5.rows, hQ5.cnts.congr (fun c hc => by rw [cnZ_last hM2 hc]), hQ5.met.cut 0 (Nat.zero_le _), hQ5.size⟩
              have hzz : Hid (s.sz s.nc = 0) := hI.zero _ (Nat.le_refl _)
              have HBl : Hid (∀ b', jo = some b' → b' < s.nc) := by
                intro b' e
                subst e
                obtain ⟨⟨i, hi, e⟩, _⟩ := hB5
                rw [← e]; exact hM2.lt i hi
              clear hQ5 hB5 hM2
              have HBW : Hid (bs < w1.heap.size ∧ bsc < w1.heap.size) := ⟨by omega, by omega⟩
              cases jo with
              | none =>
                obtain rfl : jz = -1 := hjz.out
                go_wp2_with (at_builtin; refine wpList_app _ rfl (.tmp 145) (.tmp 146) 22 rfl 24 (.slice none 0 0) 24 Try.underlying22 info24 rfl (Tg w1 tag2 3) aC s.nc capC (fun c => .slice (R c) (s.sz c) (cp c)) rfl (hQ6.outer.alloc _) ⟨wc.heap.size, 0, none⟩ 1 (.slice none 0 0) rfl (by simp) rfl (by omega) (by omega) ?_)
                intro aC3 capC3 w3 hoC hxC hsC
                have hQ7 := hQ6.outApp ((Ext.refl _ wc).alloc _) (by simp) hzz.out hoC hxC
                have hS7 := hS5.later (((Ext.refl (fun k => w1.heap.size ≤ k) wc).alloc _).trans hxC (fun k hk h => h.2)) (fun k hk h => by omega) HBW.out.1 HBW.out.2
                generalize upd tag2 (wc.heap.size + 1) 3 = tag3 at hQ7
                generalize upd R s.nc none = R3 at hQ7
                generalize upd cp s.nc 0 = cp3 at hQ7
                clear hoC hxC hsC hQ6 hS5
                go_wp2_with (at_builtin; refine wpList_app _ rfl (.tmp 148) (.tmp 149) 24 rfl 3 (.int .i64 0) 8 Try.underlying24 info3 rfl (Tg w1 tag3 2) aN s.nc capN (fun c => .int .i64 ((0 : Nat) : Int)) rfl (hQ7.cnts.alloc _) ⟨w3.heap.size, 0, none⟩ 1 (.int .i64 0) rfl (by simp) rfl (by omega) (by omega) ?_)
                intro aN3 capN3 w4 hoN hxN hsN
                have hQ8 := hQ7.cntApp ((Ext.refl _ w3).alloc _) (by simp) rfl hoN hxN
                have hS8 := hS7.later (((Ext.refl (fun k => w1.heap.size ≤ k) w3).alloc _).trans hxN (fun k hk h => h.2)) (fun k hk h => by omega) HBW.out.1 HBW.out.2
                generalize upd tag3 (w3.heap.size + 1) 2 = tag4 at hQ8
                clear hoN hxN hsN hQ7 hS7
                obtain ⟨hasc, hcsc, hfsc, hputsc⟩ := hS8.scAt hne p hpn
                have HS9 : CliS w1 (w4.setCell ⟨bsc, p, none⟩ (.int .i64 ((s.nc : Nat) + 1 : Int))) bs bsc v n asc csc sx (upd wh p (s.nc + 1)) := hputsc (s.nc + 1)
                have hQ9 := hQ8.ext ((Ext.refl (fun k => k = bsc) w4).setCell (p := ⟨bsc, p, none⟩) (fun _ => rfl) (.int .i64 ((s.nc : Nat) + 1 : Int))) (fun k hk e => by have := HBW.out; omega)
                have hf11 := hS8.field 11 (by omega) (by omega)
                rw [HV11.out] at hf11
                subst hasc
                obtain ⟨gC, eC, hgC, hcC⟩ := hQ9.outAt s.nc (by omega)
                have hszj := HSz.out s.nc
                have hR' : Hid (runC d N O (m + 1) = putC s s.nc p) := by show _ = _; rw [HRun.out]; unfold stepC; rw [HJ.out]; rfl
                have hW' : Hid (whC d N O (m + 1) = upd wh p (s.nc + 1)) := by show _ = _; rw [HWh.out, HJ.out]; rfl
                have hM' : Hid (wrap64 (steps + (2 * np + t) + sumD d O (m + 1)) = sx) := by show _ = _; rw [HSum.out, ← HSx.out, wrap64_add]; congr 1; omega
                have eC' : aC3 = some ⟨gC, 0, none⟩ := eC
                clear hputsc eC HRun HWh HSum HSx HJ
                subst eC'
                go_wp2_with (at_builtin; refine wpList_app _ rfl (.tmp 164) (.tmp 166) 24 rfl 3 (.int .i64 0) 8 Try.underlying24 info3 rfl (Tg w1 tag4 (4 + s.nc)) (R3 s.nc) (s.sz s.nc) (cp3 s.nc) (fun i => .int .i64 (s.el s.nc i : Int)) rfl ((hQ9.rows s.nc (by omega)).alloc _) ⟨w4.heap.size, 0, none⟩ 1 (.int .i64 (p : Int)) rfl (cell_new1 _ _ _ _ (by simp)) rfl (by omega) (by omega) ?_)
                intro aR capR w5 hoR hxR hsR
                obtain ⟨gC2, eC2, _, hcC2, hfC2, hQ10⟩ := hQ9.rowApp ((Ext.refl _ _).alloc _) (by simp) (by omega) hoR hxR
                obtain rfl : gC = gC2 := by simpa using eC2
                have hS10 := HS9.later (((Ext.refl (fun k => w1.heap.size ≤ k) _).alloc _).trans hxR (fun k hk h => h.2)) (fun k hk h => by omega) HBW.out.1 HBW.out.2
                have hS11 := hS10.later ((Ext.refl (fun k => k = gC) w5).setCell (p := ⟨gC, s.nc, none⟩) (fun _ => rfl) (.slice aR (s.sz s.nc + 1) capR)) (fun k hk h => by omega) HBW.out.1 HBW.out.2
                clear eC2 hoR hxR hsR hS10 hcC hQ9 HS9 hQ8 hS8 hcsc hfsc hf11
                go_wp2_with fail
                go_roundw
                case rel =>
                  refine ⟨m + 1, upd tag4 (w4.heap.size + 1) (4 + s.nc), some ⟨gC, 0, none⟩, capC3, upd R3 s.nc aR, upd cp3 s.nc capR, aN3, capN3, aM2, capM2, mt2, by omega, by go_num, ?_, ?_, rfl, ?_, ?_, ?_⟩
                  · rw [hR'.out]; rw [show (putC s s.nc p).nc = s.nc + 1 by simp [putC]]
                  · rw [hR'.out]; rw [show (putC s s.nc p).nc = s.nc + 1 by simp [putC]]
                  · rw [hM'.out, hW'.out]; exact hS11
                  · rw [hR'.out]; rw [show (putC s s.nc p).nc = s.nc + 1 by simp [putC]]; exact hQ10
                  · intro h; rw [hR'.out] at h; rw [show (putC s s.nc p).nc = s.nc + 1 by simp [putC]] at h; omega
                case measure => simp [intOf]; omega
              | some b' =>
                obtain rfl : jz = (b' : Int) := hjz.out
                have hbl := HBl.out b' rfl
                clear HBl
                obtain ⟨hasc, hcsc, hfsc, hputsc⟩ := hS5.scAt hne p hpn
                have HS9 : CliS w1 (wc.setCell ⟨bsc, p, none⟩ (.int .i64 ((b' : Nat) + 1 : Int))) bs bsc v n asc csc sx (upd wh p (b' + 1)) := hputsc (b' + 1)
                have hQ9 := hQ6.ext ((Ext.refl (fun k => k = bsc) wc).setCell (p := ⟨bsc, p, none⟩) (fun _ => rfl) (.int .i64 ((b' : Nat) + 1 : Int))) (fun k hk e => by have := HBW.out; omega)
                have hf11 := hS5.field 11 (by omega) (by omega)
                rw [HV11.out] at hf11
                subst hasc
                obtain ⟨gC, eC, hgC, hcC⟩ := hQ9.outAt b' (by omega)
                have hszj := HSz.out b'
                have hR' : Hid (runC d N O (m + 1) = putC s b' p) := by show _ = _; rw [HRun.out]; unfold stepC; rw [HJ.out]; rfl
                have hW' : Hid (whC d N O (m + 1) = upd wh p (b' + 1)) := by show _ = _; rw [HWh.out, HJ.out]; rfl
                have hM' : Hid (wrap64 (steps + (2 * np + t) + sumD d O (m + 1)) = sx) := by show _ = _; rw [HSum.out, ← HSx.out, wrap64_add]; congr 1; omega
                have eC' : aC = some ⟨gC, 0, none⟩ := eC
                clear hputsc eC HRun HWh HSum HSx HJ
                subst eC'
                go_wp2_with (at_builtin; refine wpList_app _ rfl (.tmp 164) (.tmp 166) 24 rfl 3 (.int .i64 0) 8 Try.underlying24 info3 rfl (Tg w1 tag2 (4 + b')) (R b') (s.sz b') (cp b') (fun i => .int .i64 (s.el b' i : Int)) rfl ((hQ9.rows b' (by omega)).alloc _) ⟨wc.heap.size, 0, none⟩ 1 (.int .i64 (p : Int)) rfl (cell_new1 _ _ _ _ (by simp)) rfl (by omega) (by omega) ?_)
                intro aR capR w5 hoR hxR hsR
                obtain ⟨gC2, eC2, _, hcC2, hfC2, hQ10⟩ := hQ9.rowApp ((Ext.refl _ _).alloc _) (by simp) (by omega) hoR hxR
                obtain rfl : gC = gC2 := by simpa using eC2
                have hS10 := HS9.later (((Ext.refl (fun k => w1.heap.size ≤ k) _).alloc _).trans hxR (fun k hk h => h.2)) (fun k hk h => by omega) HBW.out.1 HBW.out.2
                have hS11 := hS10.later ((Ext.refl (fun k => k = gC) w5).setCell (p := ⟨gC, b', none⟩) (fun _ => rfl) (.slice aR (s.sz b' + 1) capR)) (fun k hk h => by omega) HBW.out.1 HBW.out.2
                clear eC2 hoR hxR hsR hS10 hcC hQ9 HS9 hQ6 hS5 hcsc hfsc hf11
                go_wp2_with fail
                go_roundw
                case rel =>
                  refine ⟨m + 1, upd tag2 (wc.heap.size + 1) (4 + b'), some ⟨gC, 0, none⟩, capC, upd R b' aR, upd cp b' capR, aN, capN, aM2, capM2, mt2, by omega, by go_num, ?_, ?_, rfl, ?_, ?_, ?_⟩
                  · rw [hR'.out]; rw [show (putC s b' p).nc = s.nc by simp [putC]; omega]
                  · rw [hR'.out]; rw [show (putC s b' p).nc = s.nc by simp [putC]; omega]
                  · rw [hM'.out, hW'.out]; exact hS11
                  · rw [hR'.out]; rw [show (putC s b' p).nc = s.nc by simp [putC]; omega]; exact hQ10
                  · intro h; rw [hR'.out] at h; rw [show (putC s b' p).nc = s.nc by simp [putC]; omega] at h; omega
                case measure => simp [intOf]; omega
    · have em : m = np := by omega
      subst m
      rename World => wd
      have hI : CInv d N O np (runC d N O np) (whC d N O np) := cinv_run d N O np HOinj.out np (Nat.le_refl _)
      have hend : ∀ q, cnZ P (whC d N O np) np q = 0 := by
        intro q
        unfold cnZ
        split
        · rfl
        · rename_i hm
          by_cases h0 : whC d N O np q = 0
          · exact h0
          · obtain ⟨k, hk, e⟩ := hI.whk q h0
            obtain ⟨i, hi, _, e2⟩ := HOrd.out.mem k hk
            exact absurd (memN_iff.2 ⟨i, hi, by rw [e, e2]⟩) hm
      have HEnd : Hid (∀ q, cnZ P (whC d N O np) np q = 0) := hend
      clear hend
      have HS0 : CliS w1 wd bs bsc v n asc csc (wrap64 (steps + (2 * np + t) + sumD d O np)) (cnZ P (whC d N O np) 0) := by rw [cnZ_zero]; exact hS
      have hPok : ∀ i, i < np → P i < n := fun i hi => (hin.ok i hi).1
      have HPok : Hid (∀ i, i < np → P i < n) := hPok
      clear hPok
      go_wp2_with fail
      go_loopw [172] (fun s172 wr => ∃ k : Nat, k ≤ np ∧ s172 = .int .i64 k ∧ CliS w1 wr bs bsc v n asc csc (wrap64 (steps + (2 * np + t) + sumD d O np)) (cnZ P (whC d N O np) k) ∧
          CQ w1 wr tag aC (runC d N O np).nc capC R (runC d N O np).sz cp (runC d N O np).el aN (runC d N O np).nc capN (fun _ => 0) aM 0 capM mt) (fun i _ => np - (intOf i).toNat)
      case atStart => exact ⟨0, Nat.zero_le _, rfl, HS0, hQ⟩
      case round =>
        clear HS0 hQ hS
        obtain ⟨k, hk, rfl, hS, hQ⟩ := hrel
        by_cases hkl : k < np
        · obtain ⟨b, off, rfl, _, hc⟩ := (hpl1.ext hS.ext (fun k hk e => by have := HOut.out k hk; omega)) k hkl
          have hPk := HPok.out k hkl
          obtain ⟨hasc, hcsc, hfsc, hputsc⟩ := hS.scAt hne (P k) hPk
          have HS1 := hputsc 0
          rw [← cnZ_succ] at HS1
          have HQ1 := hQ.ext ((Ext.refl (fun k => k = bsc) wr).setCell (p := ⟨bsc, P k, none⟩) (fun _ => rfl) (.int .i64 ((0 : Nat) : Int))) (fun k hk e => by omega)
          have hf11 := hS.field 11 (by omega) (by omega)
          rw [HV11.out] at hf11
          subst hasc
          simp only [Int.natCast_zero] at HS1 HQ1
          clear hputsc
          go_wp2_with fail
          go_roundw
          case rel => exact ⟨k + 1, by omega, by go_num, HS1, HQ1⟩
          case measure => simp [intOf]; omega
        · have ek : k = np := by omega
          subst k
          go_wp2_with fail
          go_ret
          refine ⟨t, O, aC, capC, rfl, HOrd.out, ?_, ⟨R, cp, ?_, ?_⟩, hnil.out, hS.str, ?_⟩
          · exact (hext0.mono (fun k _ h => .inl h)).trans hS.ext (fun k _ h => h)
          · exact hQ.outer.mono (fun k h => Nat.le_trans hw1 h.2)
          · exact fun c hc => (hQ.rows c hc).mono (fun k h => Nat.le_trans hw1 h.2)
          · exact hS.sc.congr (fun q _ => by rw [HEnd.out q]; rfl)
end Go.Proofs.Qxb6601557a
