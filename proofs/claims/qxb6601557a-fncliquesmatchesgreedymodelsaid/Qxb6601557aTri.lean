/-
  triangleThread: the walk. By an AI agent.
-/
import Derived.Test.Qxb6601557aTriA
import Derived.Deep.CutRange
namespace Go.Proofs.Qxb6601557a
set_option linter.unusedVariables false
open Go.RowKit

set_option maxHeartbeats 4000000 in
set_option maxRecDepth 100000 in
theorem tri_any (w : World) (bs bsc bp : Nat) (S : Nat → Prop) (v : Nat → Value) (n : Nat) (d : Nat → Nat) (N : Nat → Nat → Nat) (st dg : Nat → Int) (ap : Option Addr) (np cpp : Nat) (P : Nat → Nat) (asc : Option Addr) (csc : Nat) (steps : Int) (pl : Nat → Bool) (apl : Option Addr) (cpl : Nat) (ok : Nat → Bool)
    (hin : CliIn w bs bsc S v n d N st dg ap np P asc csc) (hv4 : v 4 = .int .i64 steps) (hn : n ≤ 131072) (hnp : np ≤ 4096)
    (hsp0 : w.cell? ⟨bp, 0, none⟩ = some (.pointer (some ⟨bs, 0, none⟩))) (hsp4 : w.cell? ⟨bp, 4, none⟩ = some (.slice apl n cpl)) (hpl : Rd S w apl n (fun j => .bool (pl j))) (hbp : bp ≠ bs ∧ bp ≠ bsc)
    (hok : ∀ q, ok q = (decide (st q = 0) && !pl q)) :
    Calls Try.prog 43 #[.pointer (some ⟨bp, 0, none⟩), .slice ap np cpp] w fun e w' => ∃ t O, e = .returned (.tuple #[.int .i64 (ttP (ttTo d N ok pl O np) O : Int), .bool (ttTo d N ok pl O np).1.isSome]) ∧ TriOut w w' bs bsc v n d N ok dg np P pl asc csc steps t O := by
  go_enter Try.func43, Try.ntmps43
  go_wp2_with fail
  refine (deg_any w bs S v n dg ap np cpp P steps hin.degIn hv4 hn (by omega)).mono ?_
  rintro e w1 ⟨q, t, Q, rfl, hD⟩
  have hQ : ∀ j, j < np → ∃ i, i < np ∧ Q j = P i := by
    intro j hj
    obtain ⟨i, hi, e⟩ := rk_onto (K := keyOf t dg P) hj
    exact ⟨i, hi, by rw [← e]; exact hD.laid i hi⟩
  obtain ⟨O, hOQ⟩ : ∃ O : Nat → Nat, ∀ j, O j = (Q j).toNat := ⟨_, fun _ => rfl⟩
  have hOrd : OrdOk np dg P t O := ⟨hD.top, fun i hi => by rw [hOQ, hD.laid i hi]; simp⟩
  have hord : Rd (fun k => k = q) w1 (some ⟨q, 0, none⟩) np (fun j => .int .i64 (O j : Int)) :=
    (hD.own.congr (fun j hj => by obtain ⟨i, hi, e⟩ := hQ j hj; rw [hOQ, e]; simp)).rd
  have hql : q < w1.heap.size := hD.own.head_lt
  have hqw : w.heap.size ≤ q := hD.lo
  have hbs : bs < w.heap.size := hin.str.head_lt
  have hw1 : w.heap.size ≤ w1.heap.size := hD.ext.size
  have hOok : ∀ m, m < np → O m < n := by
    intro m hm
    obtain ⟨i, hi, _, e⟩ := hOrd.mem m hm
    rw [e]
    exact (hin.ok i hi).1
  obtain ⟨aa, ca, hv0, hadj⟩ := hin.adj
  obtain ⟨asta, csta, hv1, hsta⟩ := hin.sta
  have hadj1 := hadj.ext hD.ext (fun k hk => (hin.out k hk).1)
  have hsta1 := hsta.ext hD.ext (fun k hk => (hin.out k hk).1)
  have hpl1 := hpl.ext hD.ext (fun k hk => (hin.out k hk).1)
  have hsp01 := cell_ext hsp0 hD.ext hbp.1
  have hsp41 := cell_ext hsp4 hD.ext hbp.1
  have hne := hin.ne
  have hbc : bsc < w.heap.size := hin.bsc
  have hs0 : Hid (∀ x : Int, steps + (2 * np + t) + x = (steps + (2 * np + t)) + x) := fun _ => rfl
  have hstart : CliS w1 w1 bs bsc v n asc csc (wrap64 (steps + (2 * np + t) + ((ttTo d N ok pl O 0).2 : Nat))) (fun _ => 0) :=
    ⟨Ext.refl _ _, hD.str.congr (fun j _ => by simp [ttTo]), hin.sc.ext hD.ext (fun k hk e => hne (by omega))⟩
  have HOok : Hid (∀ m, m < np → O m < n) := hOok
  have HV0 : Hid (v 0 = .slice aa n ca) := hv0
  have HV1 : Hid (v 1 = .slice asta n csta) := hv1
  have HV11 : Hid (v 11 = .slice asc n csc) := hin.v11
  have HOrd : Hid (OrdOk np dg P t O) := hOrd
  have HOk : Hid (∀ q, ok q = (decide (st q = 0) && !pl q)) := hok
  have hgr := hin.gr
  have hext0 := hD.ext
  have HOut : Hid (∀ k, S k → k ≠ bs ∧ k ≠ bsc) := hin.out
  obtain ⟨hbp1, hbp2⟩ := hbp
  clear hOok hv0 hv1 hv4 hadj hsta hQ hOQ hOrd hD hok hpl hsp0 hsp4 hs0
  generalize hsd : steps + (2 * (np : Int) + t) = s0 at *
  have HSD : Hid (steps + (2 * (np : Int) + t) = s0) := hsd
  clear hsd
  go_wp2_with fail
  go_loopw [24] (fun s24 wr => ∃ m : Nat, m ≤ np ∧ s24 = .int .i64 m ∧ Hid ((ttTo d N ok pl O m).1 = none) ∧ CliS w1 wr bs bsc v n asc csc (wrap64 (s0 + ((ttTo d N ok pl O m).2 : Nat))) (fun _ => 0)) (fun i _ => np - (intOf i).toNat)
  case atStart => exact ⟨0, Nat.zero_le _, rfl, rfl, hstart⟩
  case round =>
    clear hstart
    obtain ⟨m, hm, rfl, hnone, hS⟩ := hrel
    by_cases hlt : m < np
    · have hpn := HOok.out m hlt
      obtain ⟨bo, offo, eo, _, hco⟩ := (hord.ext hS.ext (fun k hk e => by omega)) m hlt
      obtain ⟨rfl, rfl⟩ : q = bo ∧ 0 = offo := by simpa using eo
      clear eo
      simp only [Nat.zero_add] at hco
      have hsk := ttTo_skip d N ok (pl := pl) (O := O) (m := m)
      have hscn := ttTo_scan d N ok (pl := pl) (O := O) (m := m) hnone.out
      have HSk : Hid (pl (O m) = true → ttTo d N ok pl O (m + 1) = ttTo d N ok pl O m) := hsk
      have HScn : Hid (pl (O m) = false → ttTo d N ok pl O (m + 1) = (if triB d N ok (O m) then some m else none, (ttTo d N ok pl O m).2 + triC d N ok (O m))) := hscn
      clear hsk hscn
      have HPO : Hid (O m = O m) := rfl
      generalize hpp : O m = p at *
      have HP : Hid (O m = p) := hpp
      clear hpp HPO
      generalize hsdd : (ttTo d N ok pl O m).2 = sdn at *
      have HSdn : Hid ((ttTo d N ok pl O m).2 = sdn) := hsdd
      clear hsdd
      obtain ⟨bpl, offpl, rfl, _, hcpl⟩ := (hpl1.ext hS.ext (fun k hk e => by have := HOut.out k hk; omega)) p hpn
      have hsp0' := cell_ext hsp01 hS.ext (show ¬ (bp = bs ∨ bp = bsc) by omega)
      have hsp4' := cell_ext hsp41 hS.ext (show ¬ (bp = bs ∨ bp = bsc) by omega)
      dsimp only at hcpl
      cases hplp : pl p with
      | true =>
        simp only [hplp] at hcpl
        go_wp2_with fail
        go_roundw
        case rel => exact ⟨m + 1, by omega, by go_num, by rw [HSk.out hplp]; exact hnone, by rw [HSk.out hplp, HSdn.out]; exact hS⟩
        case measure => simp [intOf]; omega
      | false =>
        have HScn' := HScn.out hplp
        have HSc : Hid (ttTo d N ok pl O (m + 1) = (if triB d N ok p then some m else none, sdn + triC d N ok p)) := HScn'
        simp only [hplp] at hcpl
        clear hplp HScn HScn' HSk
        obtain ⟨b, off, ra, rc, rfl, hSb, hcell1, hdm, hrow1⟩ := hadj1 p hpn
        have hbne := HOut.out b hSb
        have hcell := cell_ext hcell1 hS.ext (show ¬ (b = bs ∨ b = bsc) by omega)
        have hf0 := hS.field 0 (by omega) (by omega)
        rw [HV0.out] at hf0
        have hdp := hgr.dle p hpn
        go_wp2_with fail
        have HSM0 : CliS w1 wr bs bsc v n asc csc (wrap64 (s0 + (sdn : Nat))) (scM N ok p 0) := by rw [scM_zero]; exact hS
        rename World => wa
        go_loopw [46] (fun s46 wr => ∃ i : Nat, i ≤ d p ∧ s46 = .int .i64 i ∧ CliS w1 wr bs bsc v n asc csc (wrap64 (s0 + (sdn : Nat))) (scM N ok p i)) (fun i _ => d p - (intOf i).toNat)
        case atStart => exact ⟨0, Nat.zero_le _, rfl, HSM0⟩
        case round =>
          clear HSM0 hS hcell hf0 hsp0' hsp4' hcpl hco
          obtain ⟨i, hi, rfl, hS2⟩ := hrel
          by_cases hil : i < d p
          · -- LOOP2
            have hNn := hgr.lt p hpn i hil
            obtain ⟨b2, off2, rfl, _, hc2⟩ := (hrow1.ext hS2.ext (fun k hk e => by have := HOut.out k hk; omega)) i hil
            have hokq := HOk.out (N p i)
            have hHit := fun (h : ok (N p i) = true) => scM_hit (N := N) (p := p) h
            have hSkp := fun (h : ok (N p i) = false) => scM_skip (N := N) (p := p) h
            obtain ⟨hasc, hcsc, hfsc, hputsc⟩ := hS2.scAt hne (N p i) hNn
            have HS3 := hputsc 1
            obtain ⟨bst, offst, rfl, _, hcst⟩ := (hsta1.ext hS2.ext (fun k hk e => by have := HOut.out k hk; omega)) (N p i) hNn
            obtain ⟨_, _, ep, _, hcpq⟩ := (hpl1.ext hS2.ext (fun k hk e => by have := HOut.out k hk; omega)) (N p i) hNn
            obtain ⟨rfl, rfl⟩ : bpl = _ ∧ offpl = _ := by simpa using ep
            have hf1 := hS2.field 1 (by omega) (by omega)
            rw [HV1.out] at hf1
            have hf11 := hS2.field 11 (by omega) (by omega)
            rw [HV11.out] at hf11
            have hsp0' := cell_ext hsp01 hS2.ext (show ¬ (bp = bs ∨ bp = bsc) by omega)
            have hsp4' := cell_ext hsp41 hS2.ext (show ¬ (bp = bs ∨ bp = bsc) by omega)
            have HHit : Hid (ok (N p i) = true → scM N ok p (i + 1) = upd (scM N ok p i) (N p i) 1) := hHit
            have HSkp : Hid (ok (N p i) = false → scM N ok p (i + 1) = scM N ok p i) := hSkp
            have HOkq : Hid (ok (N p i) = (decide (st (N p i) = 0) && !pl (N p i))) := hokq
            clear ep hputsc hHit hSkp hokq
            subst hasc
            dsimp only at hc2 hcst hcpq
            generalize N p i = r at *
            by_cases hst : st r = 0
            · simp only [hst] at hcst
              cases hplr : pl r with
              | true =>
                have HE := HSkp.out (by rw [HOkq.out, hplr]; simp)
                simp only [hplr] at hcpq
                rw [← HE] at hS2
                clear hplr HE HS3 HHit HSkp HOkq hst
                go_wp2_with fail
                go_roundw
                case rel => exact ⟨i + 1, by omega, by go_num, hS2⟩
                case measure => simp [intOf]; omega
              | false =>
                have HE := HHit.out (by rw [HOkq.out, hplr, hst]; rfl)
                simp only [hplr] at hcpq
                rw [← HE] at HS3
                simp only [Int.natCast_one] at HS3
                clear hplr HE HHit HSkp HOkq hst
                go_wp2_with fail
                go_roundw
                case rel => exact ⟨i + 1, by omega, by go_num, HS3⟩
                case measure => simp [intOf]; omega
            · have e1 : (st r == 0) = false := by rw [beq_eq_false_iff_ne]; exact hst
              have HE := HSkp.out (by rw [HOkq.out]; simp [hst])
              rw [← HE] at hS2
              clear HE HS3 HHit HSkp HOkq
              go_wp2_with fail
              go_roundw
              case rel => exact ⟨i + 1, by omega, by go_num, hS2⟩
              case measure => simp [intOf]; omega
          · -- AFTER2
            have ei : i = d p := by omega
            subst i
            rename World => wb
            have hf0 := hS2.field 0 (by omega) (by omega)
            rw [HV0.out] at hf0
            have hcell := cell_ext hcell1 hS2.ext (show ¬ (b = bs ∨ b = bsc) by omega)
            have hsp0' := cell_ext hsp01 hS2.ext (show ¬ (bp = bs ∨ bp = bsc) by omega)
            have hSC : CliS w1 wb bs bsc v n asc csc (wrap64 (s0 + sdn + ((triTo d N ok p 0).2 : Nat))) (scM N ok p (d p)) := by
              rw [show s0 + (sdn : Int) + ((triTo d N ok p 0).2 : Nat) = s0 + (sdn : Nat) by simp [triTo]]; exact hS2
            clear hS2
            obtain ⟨sd, hsdeq⟩ : ∃ sd : Int, sd = (sdn : Int) := ⟨_, rfl⟩
            have HSDi : Hid (sd = (sdn : Int)) := hsdeq
            rw [← hsdeq] at hSC
            clear hsdeq
            go_wp2_with fail
            go_loopw [10, 92] (fun s10 s92 wr => ∃ i : Nat, i ≤ d p ∧ s92 = .int .i64 i ∧ s10 = .bool false ∧ Hid ((triTo d N ok p i).1 = false) ∧ CliS w1 wr bs bsc v n asc csc (wrap64 (s0 + sd + ((triTo d N ok p i).2 : Nat))) (scM N ok p (d p))) (fun _ i _ => d p - (intOf i).toNat)
            case atStart => exact ⟨0, Nat.zero_le _, rfl, rfl, rfl, hSC⟩
            case round =>
              clear hSC hf0 hcell hsp0'
              obtain ⟨i, hi, rfl, rfl, hnf, hS3⟩ := hrel
              by_cases hil : i < d p
              · -- LOOP3
                have hNn := hgr.lt p hpn i hil
                obtain ⟨b2, off2, rfl, _, hc2⟩ := (hrow1.ext hS3.ext (fun k hk e => by have := HOut.out k hk; omega)) i hil
                have hTS := fun hm => triTo_skip d N ok (p := p) (i := i) hnf.out hm
                have hTL := fun hm => triTo_look d N ok (p := p) (i := i) hnf.out hm
                have hFL := fun h => triTo_found_le d N ok (p := p) (i := i + 1) (j := d p) h hil
                have HTS : Hid (mkd d N ok p (N p i) = false → triTo d N ok p (i + 1) = (false, (triTo d N ok p i).2)) := hTS
                have HTL : Hid (mkd d N ok p (N p i) = true → triTo d N ok p (i + 1) = (hmk d N ok p (N p i), (triTo d N ok p i).2 + d (N p i))) := hTL
                have HFL : Hid ((triTo d N ok p (i + 1)).1 = true → triTo d N ok p (d p) = triTo d N ok p (i + 1)) := hFL
                clear hTS hTL hFL
                obtain ⟨hasc, hcsc, _, _⟩ := hS3.scAt hne (N p i) hNn
                rw [scM_all] at hcsc
                have hf11 := hS3.field 11 (by omega) (by omega)
                rw [HV11.out] at hf11
                have hf0' := hS3.field 0 (by omega) (by omega)
                rw [HV0.out] at hf0'
                have hsp0' := cell_ext hsp01 hS3.ext (show ¬ (bp = bs ∨ bp = bsc) by omega)
                subst hasc
                dsimp only at hc2
                generalize N p i = r at *
                generalize (triTo d N ok p i).2 = c at *
                cases hmr : mkd d N ok p r with
                | false =>
                  have HE := HTS.out hmr
                  have HE1 : Hid (triTo d N ok p (i + 1) = (false, c)) := HE
                  simp only [hmr] at hcsc
                  clear hmr HE HTS HTL HFL
                  go_wp2_with fail
                  go_roundw
                  case rel => exact ⟨i + 1, by omega, by go_num, rfl, by show _ = _; rw [HE1.out], by rw [HE1.out]; exact hS3⟩
                  case measure => simp [intOf]; omega
                | true =>
                  have HE := HTL.out hmr
                  have HE1 : Hid (triTo d N ok p (i + 1) = (hmk d N ok p r, c + d r)) := HE
                  simp only [hmr] at hcsc
                  clear hmr HE HTS HTL
                  obtain ⟨_, _, rr, rrc, er, hSr, hcr1, hdmr, hrr1⟩ := hadj1 r hNn
                  obtain ⟨rfl, rfl⟩ : b = _ ∧ off = _ := by simpa using er
                  clear er
                  have hcr := cell_ext hcr1 hS3.ext (show ¬ (b = bs ∨ b = bsc) by omega)
                  have hdr := hgr.dle r hNn
                  obtain ⟨hc4, hf4, hput4⟩ := hS3.steps hne
                  have HS4 := hput4 (wrap64 (wrap64 (s0 + sd + (c : Nat)) + d r))
                  have gpn : (r : Int) < (n : Int) := by omega
                  have gp0 : (0 : Int) ≤ (r : Int) := by omega
                  have HW0 : Hid (wrap64 (wrap64 (s0 + sd + (c : Nat)) + d r) = wrap64 (s0 + sd + ((c + d r : Nat) : Int))) := by show _ = _; rw [wrap64_add]; congr 1; omega
                  clear hput4
                  go_upto_region 16 with fail
                  go_region
                  have HS5 := HS4.drew
                  clear HS4 hc4 hf4 hcr hsp0' hf0' hf11 hcsc hc2
                  generalize (wr.setCell ⟨bs, 4, none⟩ (.int .i64 (wrap64 (wrap64 (s0 + sd + (c : Nat)) + d r)))).drew = wg at HS5 ⊢
                  rw [HW0.out] at HS5
                  have hf0' := HS5.field 0 (by omega) (by omega)
                  rw [HV0.out] at hf0'
                  have hsp0' := cell_ext hsp01 HS5.ext (show ¬ (bp = bs ∨ bp = bsc) by omega)
                  have hcr := cell_ext hcr1 HS5.ext (show ¬ (b = bs ∨ b = bsc) by omega)
                  go_wp2_with fail
                  go_loopw [10, 139] (fun s10 s139 wr => ∃ j : Nat, j ≤ d r ∧ s139 = .int .i64 j ∧ s10 = .bool false ∧ Hid (∀ j', j' < j → mkd d N ok p (N r j') = false) ∧ CliS w1 wr bs bsc v n (some ⟨bsc, 0, none⟩) csc (wrap64 (s0 + sd + ((c + d r : Nat) : Int))) (scM N ok p (d p))) (fun _ i _ => d r - (intOf i).toNat)
                  case atStart => exact ⟨0, Nat.zero_le _, rfl, rfl, fun j hj => absurd hj (Nat.not_lt_zero j), HS5⟩
                  case round =>
                    clear HS5 hf0' hsp0' hcr
                    obtain ⟨j, hj, rfl, rfl, hnm, hS6⟩ := hrel
                    by_cases hjl : j < d r
                    · have hN2 := hgr.lt r hNn j hjl
                      obtain ⟨b3, off3, rfl, _, hc3⟩ := (hrr1.ext hS6.ext (fun k hk e => by have := HOut.out k hk; omega)) j hjl
                      obtain ⟨_, hcs2, _, _⟩ := hS6.scAt hne (N r j) hN2
                      rw [scM_all] at hcs2
                      have hf11 := hS6.field 11 (by omega) (by omega)
                      rw [HV11.out] at hf11
                      have hsp0' := cell_ext hsp01 hS6.ext (show ¬ (bp = bs ∨ bp = bsc) by omega)
                      have hany : mkd d N ok p (N r j) = true → hmk d N ok p r = true := fun h => anyB_iff.2 ⟨j, hjl, h⟩
                      have HAny : Hid (mkd d N ok p (N r j) = true → hmk d N ok p r = true) := hany
                      have hno : mkd d N ok p (N r j) = false → ∀ j', j' < j + 1 → mkd d N ok p (N r j') = false := fun h j' hj' => by
                        by_cases e : j' = j
                        · rw [e]; exact h
                        · exact hnm.out j' (by omega)
                      have HNo : Hid (mkd d N ok p (N r j) = false → ∀ j', j' < j + 1 → mkd d N ok p (N r j') = false) := hno
                      clear hany hno
                      dsimp only at hc3
                      generalize N r j = r2 at *
                      cases hm2 : mkd d N ok p r2 with
                      | false =>
                        simp only [hm2] at hcs2
                        have HN2 : Hid (∀ j', j' < j + 1 → mkd d N ok p (N r j') = false) := HNo.out hm2
                        clear hm2 HNo HAny
                        go_wp2_with fail
                        go_roundw
                        case rel => exact ⟨j + 1, by omega, by go_num, rfl, HN2, hS6⟩
                        case measure => simp [intOf]; omega
                      | true =>
                        -- FOUND
                        simp only [hm2] at hcs2
                        have hh := HAny.out hm2
                        have HE2 : Hid (triTo d N ok p (d p) = (true, c + d r)) := by
                          show _ = _
                          rw [HFL.out (by rw [HE1.out]; exact hh), HE1.out, hh]
                        clear hm2 HNo HAny hh HE1 HFL
                        go_upto_region 25 with fail
                        rename World => wf
                        have HTB : Hid (triB d N ok p = true) := by show (triTo d N ok p (d p)).1 = true; rw [HE2.out]
                        have HTC : Hid (triC d N ok p = (c + d r) + 2 * d p) := by show (triTo d N ok p (d p)).2 + 2 * d p = _; rw [HE2.out]
                        clear HE2 hcs2 hf11 hsp0' hc3
                        generalize hcc : c + d r = cc at *
                        clear hcc
                        have HB0 : Hid (wrap64 (wrap64 (s0 + sd + cc) + 2 * d p) = wrap64 (s0 + (sd + (cc + 2 * d p)))) := by show _ = _; rw [wrap64_add]; congr 1; omega
                        obtain ⟨hc4, hf4, hput4⟩ := hS6.steps hne
                        have HS6 := hput4 (wrap64 (wrap64 (s0 + sd + cc) + 2 * d p))
                        have hf0' := hS6.field 0 (by omega) (by omega)
                        rw [HV0.out] at hf0'
                        have hcell' := cell_ext hcell1 hS6.ext (show ¬ (b = bs ∨ b = bsc) by omega)
                        have hsp0' := cell_ext hsp01 hS6.ext (show ¬ (bp = bs ∨ bp = bsc) by omega)
                        clear hput4
                        go_wp2_with fail
                        go_region
                        have HS7 := HS6.drew
                        clear hc4 hf4 HS6 hf0' hcell' hsp0'
                        generalize (wf.setCell ⟨bs, 4, none⟩ (.int .i64 (wrap64 (wrap64 (s0 + sd + cc) + 2 * d p)))).drew = we at HS7 ⊢
                        rw [HB0.out] at HS7
                        have hf0' := HS7.field 0 (by omega) (by omega)
                        rw [HV0.out] at hf0'
                        have hcell' := cell_ext hcell1 HS7.ext (show ¬ (b = bs ∨ b = bsc) by omega)
                        have hsp0' := cell_ext hsp01 HS7.ext (show ¬ (bp = bs ∨ bp = bsc) by omega)
                        have HS8 : CliS w1 we bs bsc v n (some ⟨bsc, 0, none⟩) csc (wrap64 (s0 + (sd + (cc + 2 * d p)))) (scZ N (scM N ok p (d p)) p 0) := by rw [scZ_zero]; exact HS7
                        clear HS7
                        go_wp2_with fail
                        go_loopw [190] (fun s190 wr => ∃ k : Nat, k ≤ d p ∧ s190 = .int .i64 k ∧ CliS w1 wr bs bsc v n (some ⟨bsc, 0, none⟩) csc (wrap64 (s0 + (sd + (cc + 2 * d p)))) (scZ N (scM N ok p (d p)) p k)) (fun i _ => d p - (intOf i).toNat)
                        case atStart => exact ⟨0, Nat.zero_le _, rfl, HS8⟩
                        case round =>
                          clear HS8 hf0' hcell' hsp0'
                          obtain ⟨k, hk, rfl, hS9⟩ := hrel
                          by_cases hkl : k < d p
                          · have hNn := hgr.lt p hpn k hkl
                            obtain ⟨b2, off2, eb2, _, hc2⟩ := (hrow1.ext hS9.ext (fun k hk e => by have := HOut.out k hk; omega)) k hkl
                            obtain ⟨hasc, hcsc, hfsc, hputsc⟩ := hS9.scAt hne (N p k) hNn
                            have HS10 := hputsc 0
                            rw [← scZ_succ] at HS10
                            have hf11 := hS9.field 11 (by omega) (by omega)
                            rw [HV11.out] at hf11
                            have hsp0' := cell_ext hsp01 hS9.ext (show ¬ (bp = bs ∨ bp = bsc) by omega)
                            simp only [Option.some.injEq, Addr.mk.injEq, and_true] at eb2
                            obtain ⟨eb3, eb4⟩ := eb2
                            subst eb3
                            subst eb4
                            simp only [Int.natCast_zero] at HS10
                            dsimp only at hc2
                            clear hputsc
                            generalize N p k = r at *
                            go_wp2_with fail
                            go_roundw
                            case rel => exact ⟨k + 1, by omega, by go_num, HS10⟩
                            case measure => simp [intOf]; omega
                          · have ek : k = d p := by omega
                            subst k
                            rw [scZ_end] at hS9
                            go_wp2_with fail
                            go_ret2
                            have hfin : ttTo d N ok pl O (m + 1) = (some m, sdn + (cc + 2 * d p)) := by rw [HSc.out, HTB.out, HTC.out]; rfl
                            have hfin2 : ttTo d N ok pl O np = (some m, sdn + (cc + 2 * d p)) := by rw [ttTo_found_le d N ok (m := m + 1) (by rw [hfin]; rfl) (by omega), hfin]
                            refine ⟨t, O, ?_, HOrd.out, ?_, ?_, ?_⟩
                            · rw [hfin2]
                              unfold ttP
                              simp only [HP.out]
                              rfl
                            · exact (hext0.mono (fun k _ h => .inl h)).trans hS9.ext (fun k _ h => h)
                            · rw [HSD.out, hfin2]
                              have e : (s0 + (((some m, sdn + (cc + 2 * d p)) : Option Nat × Nat).2 : Nat) : Int) = s0 + (sd + (cc + 2 * d p)) := by rw [HSDi.out]; simp only []; omega
                              rw [e]; exact hS9.str
                            · exact hS9.sc
                    · -- NOT IN THIS ROW
                      have ej : j = d r := by omega
                      subst j
                      have HE3 : Hid (triTo d N ok p (i + 1) = (false, c + d r)) := by
                        show _ = _
                        rw [HE1.out]
                        have : hmk d N ok p r = false := anyB_false.2 hnm.out
                        rw [this]
                      go_wp2_with fail
                      go_roundw
                      case rel => exact ⟨i + 1, by omega, by go_num, rfl, by show _ = _; rw [HE3.out], by rw [HE3.out]; exact hS6⟩
                      case measure => simp [intOf]; omega
              · -- NOTFOUND
                have ei : i = d p := by omega
                subst i
                rename World => wd
                have HTB : Hid (triB d N ok p = false) := hnf.out
                have HTC : Hid (triC d N ok p = (triTo d N ok p (d p)).2 + 2 * d p) := rfl
                generalize (triTo d N ok p (d p)).2 = cc at *
                have HB0 : Hid (wrap64 (wrap64 (s0 + sd + cc) + 2 * d p) = wrap64 (s0 + (sd + (cc + 2 * d p)))) := by show _ = _; rw [wrap64_add]; congr 1; omega
                obtain ⟨hc4, hf4, hput4⟩ := hS3.steps hne
                have HS6 := hput4 (wrap64 (wrap64 (s0 + sd + cc) + 2 * d p))
                have hf0' := hS3.field 0 (by omega) (by omega)
                rw [HV0.out] at hf0'
                have hcell' := cell_ext hcell1 hS3.ext (show ¬ (b = bs ∨ b = bsc) by omega)
                have hsp0' := cell_ext hsp01 hS3.ext (show ¬ (bp = bs ∨ bp = bsc) by omega)
                clear hput4
                go_wp2_with fail
                go_region
                have HS7 := HS6.drew
                clear hc4 hf4 HS6 hf0' hcell' hsp0'
                generalize (wd.setCell ⟨bs, 4, none⟩ (.int .i64 (wrap64 (wrap64 (s0 + sd + cc) + 2 * d p)))).drew = we at HS7 ⊢
                rw [HB0.out] at HS7
                have hf0' := HS7.field 0 (by omega) (by omega)
                rw [HV0.out] at hf0'
                have hcell' := cell_ext hcell1 HS7.ext (show ¬ (b = bs ∨ b = bsc) by omega)
                have hsp0' := cell_ext hsp01 HS7.ext (show ¬ (bp = bs ∨ bp = bsc) by omega)
                have HS8 : CliS w1 we bs bsc v n asc csc (wrap64 (s0 + (sd + (cc + 2 * d p)))) (scZ N (scM N ok p (d p)) p 0) := by rw [scZ_zero]; exact HS7
                clear HS7
                go_wp2_with fail
                go_loopw [190] (fun s190 wr => ∃ k : Nat, k ≤ d p ∧ s190 = .int .i64 k ∧ CliS w1 wr bs bsc v n asc csc (wrap64 (s0 + (sd + (cc + 2 * d p)))) (scZ N (scM N ok p (d p)) p k)) (fun i _ => d p - (intOf i).toNat)
                case atStart => exact ⟨0, Nat.zero_le _, rfl, HS8⟩
                case round =>
                  clear HS8 hf0' hcell' hsp0'
                  obtain ⟨k, hk, rfl, hS9⟩ := hrel
                  by_cases hkl : k < d p
                  · have hNn := hgr.lt p hpn k hkl
                    obtain ⟨b2, off2, eb2, _, hc2⟩ := (hrow1.ext hS9.ext (fun k hk e => by have := HOut.out k hk; omega)) k hkl
                    obtain ⟨hasc, hcsc, hfsc, hputsc⟩ := hS9.scAt hne (N p k) hNn
                    have HS10 := hputsc 0
                    rw [← scZ_succ] at HS10
                    have hf11 := hS9.field 11 (by omega) (by omega)
                    rw [HV11.out] at hf11
                    have hsp0' := cell_ext hsp01 hS9.ext (show ¬ (bp = bs ∨ bp = bsc) by omega)
                    subst hasc
                    subst eb2
                    simp only [Int.natCast_zero] at HS10
                    dsimp only at hc2
                    clear hputsc
                    generalize N p k = r at *
                    go_wp2_with fail
                    go_roundw
                    case rel => exact ⟨k + 1, by omega, by go_num, HS10⟩
                    case measure => simp [intOf]; omega
                  · have ek : k = d p := by omega
                    subst k
                    rw [scZ_end] at hS9
                    go_wp2_with fail
                    go_roundw
                    case rel =>
                      refine ⟨m + 1, by omega, by go_num, ?_, ?_⟩
                      · show _ = _
                        rw [HSc.out, HTB.out]; rfl
                      · rw [HSc.out, HTC.out]
                        have e : (s0 + (((if triB d N ok p = true then some m else none, sdn + (cc + 2 * d p)) : Option Nat × Nat).2 : Nat) : Int) = s0 + (sd + (cc + 2 * d p)) := by rw [HSDi.out]; simp only []; omega
                        rw [e]; exact hS9
                    case measure => simp [intOf]; omega
    · have em : m = np := by omega
      subst m
      go_wp2_with fail
      go_ret2
      refine ⟨t, O, ?_, HOrd.out, ?_, ?_, ?_⟩
      · have := hnone.out
        show Ending.returned (.tuple #[.int .i64 0, .bool false]) = _
        unfold ttP
        rw [this]; rfl
      · exact (hext0.mono (fun k _ h => .inl h)).trans hS.ext (fun k _ h => h)
      · rw [HSD.out]; exact hS.str
      · exact hS.sc
end Go.Proofs.Qxb6601557a
