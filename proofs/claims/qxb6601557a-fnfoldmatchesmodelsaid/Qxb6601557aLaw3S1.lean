/-
  FnFoldMatchesModel: the tables and the made list. By an AI agent.
-/
import Derived.Test.Qxb6601557aLaw3C
namespace Go.Proofs.Qxb6601557a
set_option linter.unusedVariables false
open Go.RowKit

set_option maxHeartbeats 16000000 in
set_option maxRecDepth 100000 in
theorem seg22 (next : Seg48) : Seg22 := by
  intro W wc n n3 n5 n6 n8 n9 n10 l7 nm vn u w2 iu iw d mk A F0 F st dg tr tu ma sd sc qu steps x' b3 b6 b7 b9 b10 b11 oT oU oM oI oC aO gA pA gS pS gD pD gQ pQ kA qA kS qS kD qD kQ qQ  z24 z28 z67 z68 z69 z70 z71 z72 z73 z74 z75 z76 z77 z78 z79 z80 z81 z82 z83 z84 z85 z86 z87 z88 z89 z90 z91 z92 z93 z94 z95 z96 z97 z98 z99 z100 z101 z102 z103 z104 z105 z106 z107 z108 z109 z110 z111 z112 z113 z114 z115 z116 z117 z118 z119 z120 z121 z122 z123 z124 z125 z126 z127 z128 z129 z130 z131 z132 z133 z134 z135 z136 z137 z138 z139 z140 z141 z142 z143 z144 z145 z146 z147 z148 z149 z150 z151 z152 z153 z154 z155 z156 z157 z158 z159 z160 z161 z162 z163 z164 z165 z166 z167 z168 z169 z170 z171 z172 z173 z174 z175 z176 z177 z178 z179 z180 z181 z182 z183 z184 z185 z186 z187 z188 z189 z190 z191 z192 z193 z194 z195 z196 z197 z198 z199 z200 z201 z202 z203 z204 z205 z206 z207 z208 z209 z210 z211 z212 z213 z214 z215 z216 z217 z218 z219 z220 z221 z222 z223 z224 z225 z226 z227 z228 z229 z230 z231 z232 z233 z234 z235 z236 z237 z1000 z1001 z1002 z1003 z1004 z1005 z1006 z1007 z1008 z1009
  rintro ⟨hn, ln3, ln5, ln6, ln8, ln9, ln10, HD, HTwo, HGn, sT, sU, sM, sI, sC, sF, rT, rU, rM, rI, rC, rF, HP, hvn, hun, hwn, hnmn, hxWc, Hl7, CA, CS, CD, CQ, EA, ES, ED, EQ⟩
  intro c y K hc hy hK
  conv at hc => rhs; whnf
  conv at hy => rhs; whnf
  subst c
  subst y
  go_wp2_with (at_make; refine wpList_mk _ rfl _ _ 26 rfl 4 (.bool false) 1 Try.underlying26 info4 rfl _ _ n rfl rfl rfl rfl (by omega) (by omega) ?_)
  intro wm1 ownV hx1 hz1
  go_wp2_with (at_make; refine wpList_mk _ rfl _ _ 26 rfl 4 (.bool false) 1 Try.underlying26 info4 rfl _ _ n rfl rfl rfl rfl (by omega) (by omega) ?_)
  intro wm2 ownU hx2 hz2
  go_wp2_with (at_make; refine wpList_mk _ rfl _ _ 26 rfl 4 (.bool false) 1 Try.underlying26 info4 rfl _ _ n rfl rfl rfl rfl (by omega) (by omega) ?_)
  intro wm3 ownW hx3 hz3
  have hy3 : Ext (fun _ => False) wc wm3 := (hx1.trans hx2 (fun _ _ h => h)).trans hx3 (fun _ _ h => h)
  have oV0 := (ownV.ext hx2 (fun _ _ h => h)).ext hx3 (fun _ _ h => h)
  have oU0 : Own (fun k => k = wc.heap.size + 1) 4 wm3 (some ⟨wc.heap.size + 1, 0, none⟩) n n (fun _ => .bool false) := by have h := ownU.ext hx3 (fun _ _ h => h); simpa only [hz1] using h
  have oW0 : Own (fun k => k = wc.heap.size + 1 + 1) 4 wm3 (some ⟨wc.heap.size + 1 + 1, 0, none⟩) n n (fun _ => .bool false) := by have h := ownW; simpa only [hz1, hz2] using h
  have hz3' : wm3.heap.size = wc.heap.size + 3 := by omega
  clear ownV ownU ownW hx1 hx2 hx3 hz1 hz2 hz3
  have hgV0 : Hid (wc.heap.size = wc.heap.size) := rfl
  clear hgV0
  have hwcs : ∃ g, wc.heap.size = g := ⟨_, rfl⟩
  obtain ⟨gV, hgV⟩ := hwcs
  rw [hgV] at oV0 oU0 oW0 hz3'
  simp only [hgV]
  obtain ⟨raV, rcV, hcellV, hrowV⟩ := CA.out vn hvn
  have hcellV' := cellX hcellV hy3 (fun h => h)
  have hiV : ((vn : Nat) : Int) < (n : Int) := by omega
  have hdV : d vn ≤ 131072 := HD.out vn hvn
  go_wp2_with fail
  go_loopw [249] (fun s wr => ∃ i : Nat, i ≤ d vn ∧ s = .int .i64 i ∧ Own (fun k => k = gV) 4 wr (some ⟨gV, 0, none⟩) n n (fun j => .bool (memN i (nbF A vn) j)) ∧ Ext (fun k => k = gV) wm3 wr) (fun i _ => d vn - (intOf i).toNat)
  case atStart => exact ⟨0, Nat.zero_le _, rfl, oV0.congr (fun j _ => by simp [memN]), Ext.refl _ _⟩
  case round =>
    obtain ⟨i, hi, rfl, hT, hxT⟩ := hrel
    by_cases hil : i < d vn
    · have hxw : Ext (fun _ => False) wc wr := hy3.trans hxT (fun k hk e => by omega)
      obtain ⟨bR, oR, rfl, _, hcR⟩ := (hrowV.ext hxw (fun _ _ h => h)) i hil
      have hqn := HGn.out.lt vn hvn i hil
      obtain ⟨g', eg', _, _, hcT, hfT, hput⟩ := hT.at (nbF A vn i) hqn
      obtain rfl : gV = g' := by injection eg' with e1; injection e1
      have hT2 := (hput (.bool true)).congr (f' := fun j => .bool (memN (i + 1) (nbF A vn) j)) (fun j _ => upd_memB (nbF A vn) i j)
      have hxT2 := hxT.setCell (p := ⟨gV, nbF A vn i, none⟩) (fun _ => rfl) (.bool true)
      dsimp only at hcR
      clear hput eg' hT hxT hxw
      generalize nbF A vn i = r at *
      go_wp2_with fail
      go_roundw
      case rel => exact ⟨i + 1, by omega, by go_num, hT2, hxT2⟩
      case measure => simp [intOf]; omega
    · obtain rfl : i = d vn := by omega
      rename World => wTV
      have hyT : Ext (fun _ => False) wc wTV := hy3.trans hxT (fun k hk e => by omega)
      have oU1 := oU0.ext hxT (fun k hk e => by omega)
      have oW1 := oW0.ext hxT (fun k hk e => by omega)
      have oV1 := hT
      have hzT := hxT.size
      clear hy3 oV0 oU0 oW0 hxT hT
      have hy3 := hyT
      have oV0 := oV1
      have oU0 := oU1
      have oW0 := oW1
      clear hyT oV1 oU1 oW1
      obtain ⟨raU, rcU, hcellU, hrowU⟩ := CA.out u hun
      have hcellU' := cellX hcellU hy3 (fun h => h)
      have hiU : ((u : Nat) : Int) < (n : Int) := by omega
      have hdU : d u ≤ 131072 := HD.out u hun
      go_wp2_with fail
      go_loopw [262] (fun s wr => ∃ i : Nat, i ≤ d u ∧ s = .int .i64 i ∧ Own (fun k => k = gV + 1) 4 wr (some ⟨gV + 1, 0, none⟩) n n (fun j => .bool (memN i (nbF A u) j)) ∧ Ext (fun k => k = gV + 1) wTV wr) (fun i _ => d u - (intOf i).toNat)
      case atStart => exact ⟨0, Nat.zero_le _, rfl, oU0.congr (fun j _ => by simp [memN]), Ext.refl _ _⟩
      case round =>
        obtain ⟨i, hi, rfl, hT, hxT⟩ := hrel
        by_cases hil : i < d u
        · have hxw : Ext (fun _ => False) wc wr := hy3.trans hxT (fun k hk e => by omega)
          obtain ⟨bR, oR, rfl, _, hcR⟩ := (hrowU.ext hxw (fun _ _ h => h)) i hil
          have hqn := HGn.out.lt u hun i hil
          obtain ⟨g', eg', _, _, hcT, hfT, hput⟩ := hT.at (nbF A u i) hqn
          obtain rfl : gV + 1 = g' := by injection eg' with e1; injection e1
          have hT2 := (hput (.bool true)).congr (f' := fun j => .bool (memN (i + 1) (nbF A u) j)) (fun j _ => upd_memB (nbF A u) i j)
          have hxT2 := hxT.setCell (p := ⟨gV + 1, nbF A u i, none⟩) (fun _ => rfl) (.bool true)
          dsimp only at hcR
          clear hput eg' hT hxT hxw
          generalize nbF A u i = r at *
          go_wp2_with fail
          go_roundw
          case rel => exact ⟨i + 1, by omega, by go_num, hT2, hxT2⟩
          case measure => simp [intOf]; omega
        · obtain rfl : i = d u := by omega
          rename World => wTU
          have hyT : Ext (fun _ => False) wc wTU := hy3.trans hxT (fun k hk e => by omega)
          have oV1 := oV0.ext hxT (fun k hk e => by omega)
          have oW1 := oW0.ext hxT (fun k hk e => by omega)
          have oU1 := hT
          have hzT := hxT.size
          clear hy3 oV0 oU0 oW0 hxT hT
          have hy3 := hyT
          have oV0 := oV1
          have oU0 := oU1
          have oW0 := oW1
          clear hyT oV1 oU1 oW1
          obtain ⟨raW, rcW, hcellW, hrowW⟩ := CA.out w2 hwn
          have hcellW' := cellX hcellW hy3 (fun h => h)
          have hiW : ((w2 : Nat) : Int) < (n : Int) := by omega
          have hdW : d w2 ≤ 131072 := HD.out w2 hwn
          go_wp2_with fail
          go_loopw [275] (fun s wr => ∃ i : Nat, i ≤ d w2 ∧ s = .int .i64 i ∧ Own (fun k => k = gV + 1 + 1) 4 wr (some ⟨gV + 1 + 1, 0, none⟩) n n (fun j => .bool (memN i (nbF A w2) j)) ∧ Ext (fun k => k = gV + 1 + 1) wTU wr) (fun i _ => d w2 - (intOf i).toNat)
          case atStart => exact ⟨0, Nat.zero_le _, rfl, oW0.congr (fun j _ => by simp [memN]), Ext.refl _ _⟩
          case round =>
            obtain ⟨i, hi, rfl, hT, hxT⟩ := hrel
            by_cases hil : i < d w2
            · have hxw : Ext (fun _ => False) wc wr := hy3.trans hxT (fun k hk e => by omega)
              obtain ⟨bR, oR, rfl, _, hcR⟩ := (hrowW.ext hxw (fun _ _ h => h)) i hil
              have hqn := HGn.out.lt w2 hwn i hil
              obtain ⟨g', eg', _, _, hcT, hfT, hput⟩ := hT.at (nbF A w2 i) hqn
              obtain rfl : gV + 1 + 1 = g' := by injection eg' with e1; injection e1
              have hT2 := (hput (.bool true)).congr (f' := fun j => .bool (memN (i + 1) (nbF A w2) j)) (fun j _ => upd_memB (nbF A w2) i j)
              have hxT2 := hxT.setCell (p := ⟨gV + 1 + 1, nbF A w2 i, none⟩) (fun _ => rfl) (.bool true)
              dsimp only at hcR
              clear hput eg' hT hxT hxw
              generalize nbF A w2 i = r at *
              go_wp2_with fail
              go_roundw
              case rel => exact ⟨i + 1, by omega, by go_num, hT2, hxT2⟩
              case measure => simp [intOf]; omega
            · obtain rfl : i = d w2 := by omega
              rename World => wTW
              have hyT : Ext (fun _ => False) wc wTW := hy3.trans hxT (fun k hk e => by omega)
              have oV1 := oV0.ext hxT (fun k hk e => by omega)
              have oU1 := oU0.ext hxT (fun k hk e => by omega)
              have oW1 := hT
              have hzT := hxT.size
              clear hy3 oV0 oU0 oW0 hxT hT
              have hy3 := hyT
              have oV0 := oV1
              have oU0 := oU1
              have oW0 := oW1
              clear hyT oV1 oU1 oW1
              clear hrowV hrowU hrowW hcellV hcellU hcellW hcellV' hcellU' hcellW'
              go_wp2_with (at_make; refine wpList_mk _ rfl _ _ 26 rfl 4 (.bool false) 1 Try.underlying26 info4 rfl _ _ n rfl rfl rfl rfl (by omega) (by omega) ?_)
              intro wM ownM hxM hzM
              obtain ⟨gM, hgM⟩ : ∃ g, wTW.heap.size = g := ⟨_, rfl⟩
              have hgVM : gV + 3 ≤ gM := by omega
              have hyM : Ext (fun _ => False) wc wM := hy3.trans hxM (fun _ _ h => h)
              have CV : Hid (∀ q, q < n → wM.cell? ⟨gV, q, none⟩ = some (.bool (memN (d vn) (nbF A vn) q))) := fun q hq => by
                obtain ⟨g', eg', _, _, hc, _, _⟩ := (oV0.ext hxM (fun _ _ h => h)).at q hq
                obtain rfl : gV = g' := by injection eg' with e1; injection e1
                exact hc
              have CU : Hid (∀ q, q < n → wM.cell? ⟨gV + 1, q, none⟩ = some (.bool (memN (d u) (nbF A u) q))) := fun q hq => by
                obtain ⟨g', eg', _, _, hc, _, _⟩ := (oU0.ext hxM (fun _ _ h => h)).at q hq
                obtain rfl : gV + 1 = g' := by injection eg' with e1; injection e1
                exact hc
              have CW : Hid (∀ q, q < n → wM.cell? ⟨gV + 1 + 1, q, none⟩ = some (.bool (memN (d w2) (nbF A w2) q))) := fun q hq => by
                obtain ⟨g', eg', _, _, hc, _, _⟩ := (oW0.ext hxM (fun _ _ h => h)).at q hq
                obtain rfl : gV + 1 + 1 = g' := by injection eg' with e1; injection e1
                exact hc
              have oM0 : Own (fun k => k = gM) 4 wM (some ⟨gM, 0, none⟩) n n (fun _ => .bool false) := by rw [← hgM]; exact ownM
              have hzM' : wM.heap.size = gM + 1 := by omega
              clear ownM hxM hy3 oV0 oU0 oW0 hzM
              simp only [hgM]
              clear hgM
              have HInc : Hid (∀ i j, i < j → j < nm → mk i < mk j) := HP.out.minc
              have HMem : Hid (∀ q, memN nm mk q = ((memN (d u) (nbF A u) q || memN (d w2) (nbF A w2) q) && (decide (q ≠ vn) && isF st q))) := HP.out.mmem
              go_wp2_with fail
              go_loopw [49, 51] (fun s49 s51 wr => ∃ (q c cL : Nat) (aL : Option Addr), q ≤ n ∧ s51 = .int .i64 q ∧ s49 = .slice aL c cL ∧ PartAt mk nm c q ∧ Own (fun k => gM < k) 3 wr aL c cL (fun i => .int .i64 (mk i : Int)) ∧ Own (fun k => k = gM) 4 wr (some ⟨gM, 0, none⟩) n n (fun j => .bool (memN c mk j)) ∧ Ext (fun k => gM ≤ k) wM wr) (fun _ i _ => n - (intOf i).toNat)
              case atStart => exact ⟨0, 0, 0, none, Nat.zero_le _, rfl, rfl, PartAt.zero _ _, Own.nil, oM0.congr (fun j _ => by simp [memN]), Ext.refl _ _⟩
              case round =>
                obtain ⟨q, c, cL, aL, hq, rfl, rfl, hPt, hLs, hIM, hxw⟩ := hrel
                rename World => wr
                by_cases hql : q < n
                · have hxF : Ext (fun _ => False) wc wr := hyM.trans hxw (fun i hi h => by omega)
                  have cu := cellX (CU.out q hql) hxw (show ¬ gM ≤ gV + 1 by omega)
                  have cw := cellX (CW.out q hql) hxw (show ¬ gM ≤ gV + 1 + 1 by omega)
                  have cs := cellX (CS.out q hql) hxF (fun h => h)
                  have hmem := HMem.out q
                  rw [hPt.mem HInc.out] at hmem
                  have hcn := hPt.le
                  have gq : (q : Int) < (n : Int) := by omega
                  cases hU : memN (d u) (nbF A u) q with
                  | true =>
                    rw [hU] at cu hmem
                    simp only [Bool.true_or, Bool.true_and] at hmem
                    by_cases hqv : q = vn
                    · have e1 : ((q : Int) != (vn : Int)) = false := by simp [hqv]
                      have hno : ¬ (c < nm ∧ mk c = q) := by
                        intro h
                        simp [h.1, h.2, hqv] at hmem
                      have hPt2 := hPt.skip hno HInc.out
                      clear hmem hno hPt hqv
                      go_wp2_with fail
                      go_roundw
                      case rel => exact ⟨q + 1, c, cL, aL, by omega, by go_num, rfl, hPt2, hLs, hIM, hxw⟩
                      case measure => simp [intOf]; omega
                    · have e1 : ((q : Int) != (vn : Int)) = true := by simp; omega
                      by_cases hz : st q = 0
                      · have hyes : c < nm ∧ mk c = q := by
                          have h2 : (decide (c < nm) && decide (mk c = q)) = true := by rw [hmem, isF_true hz]; simp [hqv]
                          simpa using h2
                        have hPt2 := hPt.take HInc.out hyes.1 hyes.2
                        rw [hz] at cs
                        have Hmc : Hid (mk c = q) := hyes.2
                        have hcl := hyes.1
                        clear hmem hyes hz hqv
                        go_wp2_with (at_builtin; refine wpList_app _ rfl (.tmp 312) (.tmp 314) 24 rfl 3 (.int .i64 0) 8 Try.underlying24 info3 rfl (fun k => gM < k) aL c cL (fun i => .int .i64 (mk i : Int)) rfl (hLs.alloc _) ⟨wr.heap.size, 0, none⟩ 1 (.int .i64 (q : Int)) rfl (cell_new1 _ _ _ _ (by simp)) rfl (by omega) (by omega) ?_)
                        intro aN cN wN hoN hxN _
                        have hxN1 : Ext (fun k => gM < k) wr wN := ((Ext.refl (fun k => gM < k) wr).alloc _).trans hxN (fun _ _ h => h)
                        have hwl : gM + 1 ≤ wr.heap.size := by have := hxw.size; omega
                        obtain ⟨g', eg', _, _, hcM, hfM, hputM⟩ := (hIM.ext hxN1 (fun k hk h => by omega)).at q hql
                        obtain rfl : gM = g' := by injection eg' with e1; injection e1
                        have hIM2 := (hputM (.bool true)).congr (f' := fun j => .bool (memN (c + 1) mk j)) (fun j _ => by have h := upd_memB mk c j; rw [Hmc.out] at h; exact h)
                        have hxS : Ext (fun k => k = gM) wN (wN.setCell ⟨gM, q, none⟩ (.bool true)) := (Ext.refl (fun k => k = gM) _).setCell (fun _ => rfl) _
                        have hLs2 : Own (fun k => gM < k) 3 (wN.setCell ⟨gM, q, none⟩ (.bool true)) aN (c + 1) cN (fun i => .int .i64 (mk i : Int)) := by
                          refine (((hoN.mono (fun k hk => ?_)).congr (fun i hi => ?_)).ext hxS (fun k hk e => by omega))
                          · rcases hk with hk | hk
                            · exact hk
                            · omega
                          · by_cases e : i = c
                            · subst e; rw [upd_same, Hmc.out]
                            · rw [upd_other _ _ _ _ e]
                        have hxw2 : Ext (fun k => gM ≤ k) wM (wN.setCell ⟨gM, q, none⟩ (.bool true)) := (hxw.trans hxN1 (fun k _ h => by omega)).trans hxS (fun k _ e => by omega)
                        clear hputM hoN hxN hxN1 hIM hLs hPt eg' hxS
                        go_wp2_with fail
                        go_roundw
                        case rel => exact ⟨q + 1, c + 1, cN, aN, by omega, by go_num, rfl, hPt2, hLs2, hIM2, hxw2⟩
                        case measure => simp [intOf]; omega
                      · have e2 : (st q == 0) = false := by rw [beq_eq_false_iff_ne]; exact hz
                        have hno : ¬ (c < nm ∧ mk c = q) := by
                          intro h
                          simp [h.1, h.2, isF_false hz] at hmem
                        have hPt2 := hPt.skip hno HInc.out
                        clear hmem hno hPt hz hqv
                        generalize st q = sv at *
                        go_wp2_with fail
                        go_roundw
                        case rel => exact ⟨q + 1, c, cL, aL, by omega, by go_num, rfl, hPt2, hLs, hIM, hxw⟩
                        case measure => simp [intOf]; omega
                  | false =>
                    rw [hU] at cu hmem
                    cases hW : memN (d w2) (nbF A w2) q with
                    | true =>
                      rw [hW] at cw hmem
                      simp only [Bool.false_or, Bool.true_and] at hmem
                      by_cases hqv : q = vn
                      · have e1 : ((q : Int) != (vn : Int)) = false := by simp [hqv]
                        have hno : ¬ (c < nm ∧ mk c = q) := by
                          intro h
                          simp [h.1, h.2, hqv] at hmem
                        have hPt2 := hPt.skip hno HInc.out
                        clear hmem hno hPt hqv
                        go_wp2_with fail
                        go_roundw
                        case rel => exact ⟨q + 1, c, cL, aL, by omega, by go_num, rfl, hPt2, hLs, hIM, hxw⟩
                        case measure => simp [intOf]; omega
                      · have e1 : ((q : Int) != (vn : Int)) = true := by simp; omega
                        by_cases hz : st q = 0
                        · have hyes : c < nm ∧ mk c = q := by
                            have h2 : (decide (c < nm) && decide (mk c = q)) = true := by rw [hmem, isF_true hz]; simp [hqv]
                            simpa using h2
                          have hPt2 := hPt.take HInc.out hyes.1 hyes.2
                          rw [hz] at cs
                          have Hmc : Hid (mk c = q) := hyes.2
                          have hcl := hyes.1
                          clear hmem hyes hz hqv
                          go_wp2_with (at_builtin; refine wpList_app _ rfl (.tmp 312) (.tmp 314) 24 rfl 3 (.int .i64 0) 8 Try.underlying24 info3 rfl (fun k => gM < k) aL c cL (fun i => .int .i64 (mk i : Int)) rfl (hLs.alloc _) ⟨wr.heap.size, 0, none⟩ 1 (.int .i64 (q : Int)) rfl (cell_new1 _ _ _ _ (by simp)) rfl (by omega) (by omega) ?_)
                          intro aN cN wN hoN hxN _
                          have hxN1 : Ext (fun k => gM < k) wr wN := ((Ext.refl (fun k => gM < k) wr).alloc _).trans hxN (fun _ _ h => h)
                          have hwl : gM + 1 ≤ wr.heap.size := by have := hxw.size; omega
                          obtain ⟨g', eg', _, _, hcM, hfM, hputM⟩ := (hIM.ext hxN1 (fun k hk h => by omega)).at q hql
                          obtain rfl : gM = g' := by injection eg' with e1; injection e1
                          have hIM2 := (hputM (.bool true)).congr (f' := fun j => .bool (memN (c + 1) mk j)) (fun j _ => by have h := upd_memB mk c j; rw [Hmc.out] at h; exact h)
                          have hxS : Ext (fun k => k = gM) wN (wN.setCell ⟨gM, q, none⟩ (.bool true)) := (Ext.refl (fun k => k = gM) _).setCell (fun _ => rfl) _
                          have hLs2 : Own (fun k => gM < k) 3 (wN.setCell ⟨gM, q, none⟩ (.bool true)) aN (c + 1) cN (fun i => .int .i64 (mk i : Int)) := by
                            refine (((hoN.mono (fun k hk => ?_)).congr (fun i hi => ?_)).ext hxS (fun k hk e => by omega))
                            · rcases hk with hk | hk
                              · exact hk
                              · omega
                            · by_cases e : i = c
                              · subst e; rw [upd_same, Hmc.out]
                              · rw [upd_other _ _ _ _ e]
                          have hxw2 : Ext (fun k => gM ≤ k) wM (wN.setCell ⟨gM, q, none⟩ (.bool true)) := (hxw.trans hxN1 (fun k _ h => by omega)).trans hxS (fun k _ e => by omega)
                          clear hputM hoN hxN hxN1 hIM hLs hPt eg' hxS
                          go_wp2_with fail
                          go_roundw
                          case rel => exact ⟨q + 1, c + 1, cN, aN, by omega, by go_num, rfl, hPt2, hLs2, hIM2, hxw2⟩
                          case measure => simp [intOf]; omega
                        · have e2 : (st q == 0) = false := by rw [beq_eq_false_iff_ne]; exact hz
                          have hno : ¬ (c < nm ∧ mk c = q) := by
                            intro h
                            simp [h.1, h.2, isF_false hz] at hmem
                          have hPt2 := hPt.skip hno HInc.out
                          clear hmem hno hPt hz hqv
                          generalize st q = sv at *
                          go_wp2_with fail
                          go_roundw
                          case rel => exact ⟨q + 1, c, cL, aL, by omega, by go_num, rfl, hPt2, hLs, hIM, hxw⟩
                          case measure => simp [intOf]; omega
                    | false =>
                      rw [hW] at cw hmem
                      have hno : ¬ (c < nm ∧ mk c = q) := by
                        intro h
                        simp [h.1, h.2] at hmem
                      have hPt2 := hPt.skip hno HInc.out
                      clear hmem hno hPt
                      go_wp2_with fail
                      go_roundw
                      case rel => exact ⟨q + 1, c, cL, aL, by omega, by go_num, rfl, hPt2, hLs, hIM, hxw⟩
                      case measure => simp [intOf]; omega
                · obtain rfl : n = q := by omega
                  have ecn : c = nm := hPt.done HP.out.mlt
                  subst c
                  have hxF : Ext (fun _ => False) wc wr := hyM.trans hxw (fun i hi h => by omega)
                  have hLr : Rd (fun _ => True) wr aL nm (fun i => .int .i64 (mk i : Int)) := hLs.rd.mono (fun _ _ => trivial)
                  have hIr := hIM.rd
                  have DV : Hid (∀ j, j < n → wr.cell? ⟨gV, j, none⟩ = some (.bool (memN (d vn) (nbF A vn) j))) := fun j hj => cellX (CV.out j hj) hxw (show ¬ gM ≤ gV by omega)
                  have DU : Hid (∀ j, j < n → wr.cell? ⟨gV + 1, j, none⟩ = some (.bool (memN (d u) (nbF A u) j))) := fun j hj => cellX (CU.out j hj) hxw (show ¬ gM ≤ gV + 1 by omega)
                  have DW : Hid (∀ j, j < n → wr.cell? ⟨gV + 1 + 1, j, none⟩ = some (.bool (memN (d w2) (nbF A w2) j))) := fun j hj => cellX (CW.out j hj) hxw (show ¬ gM ≤ gV + 1 + 1 by omega)
                  have DM : Hid (∀ j, j < n → wr.cell? ⟨gM, j, none⟩ = some (.bool (memN nm mk j))) := fun j hj => by
                    obtain ⟨g', eg', _, _, hc, _, _⟩ := hIM.at j hj
                    obtain rfl : gM = g' := by injection eg' with e1; injection e1
                    exact hc
                  clear hLs hIM hPt hxw hyM oM0 hIr CV CU CW hzM'
                  rename World => wL
                  go_upto_region 48 with fail
                  refine next _ _ _ _ _ _ _ _ _ _ _ _ _ _ _ _ _ _ _ _ _ _ _ _ _ _ _ _ _ _ _ _ _ _ _ _ _ _ _ _ _ _ _ _ _ _ _ _ _ _ _ _ _ _ _ _ _ _ _ _ _ _ _ _ _ _ _ _ _ _ _ _ _ _ _ _ _ _ _ _ _ _ _ _ _ _ _ _ _ _ _ _ _ _ _ _ _ _ _ _ _ _ _ _ _ _ _ _ _ _ _ _ _ _ _ _ _ _ _ _ _ _ _ _ _ _ _ _ _ _ _ _ _ _ _ _ _ _ _ _ _ _ _ _ _ _ _ _ _ _ _ _ _ _ _ _ _ _ _ _ _ _ _ _ _ _ _ _ _ _ _ _ _ _ _ _ _ _ _ _ _ _ _ _ _ _ _ _ _ _ _ _ _ _ _ _ _ _ _ _ _ _ _ _ _ _ _ _ _ _ _ _ _ _ _ _ _ _ _ _ _ _ _ _ _ _ _ _ _ _ _ _ _ _ _ _ _ _ _ _ _ _ _ _ _ _ _ _ _ _ _ _ _ _ _ _ _ _ _ _ _ _ _ _ _ _ _ _ _ _ _ _ _ _ _ _ _ _ _ _ _ _ _ _ _ _ _ _ _ _ _ _ _ _ _ _ _ _ _ _ _ _ _ _ _ _ _ _ _ _ _ _ _ _ _ _ _ _ _ _ _ _ _ _ _ _ _ _ _ _ _ _ _ _ _ _ _ _ _ _ _ _ _ _ _ _ _ _ _ _ _ _ _ _ _ _ _ _ _ _ _ _ _ _ _ _ _ _ _ _ _ _ _ _ _ _ _ _ _ _ _ _ _ _ _ _ _ _ _ _ _ _ _ _ _ _ _ _ _ _ _ _ _ _ _ _ _ _ _ _ _ _ _ _ _ _ _ _ _ _ _ _ _ _ _ _ _ _ _ _ _ _ _ _ _ _ _ _ _ _ _ _ _ _ _ _ _ _ _ _ _ _ _ _ _ _ _ _ _ _ _ _ _ _ _ _ _ _ _ _ _ _ _ _ _ _ _ _ _ _ _ _ _ _ _ _ _ _ _ _ _ _ _ _ _ _ _ _ _ _ _ _ _ _ _ _ _ _ _ _ _ _ _ _ _ _ _ _ _ _ _ _ _ _ _ _ _ _ _ _ _ _ _ _ _ _ _ _ _ _ _ _ _ _ _ _ _ _ _ _ _ _ _ _ _ _ _ _ _ _ _ _ _ _ _ _ _ _ _ _ _ _ _ _ _ _ _ _ _ _ _ _ _ _ _ _ _ _ _ _ _ _ _ _ _ _ _ _ _ _ _ _ _ _ _ _ _ _ _ _ _ _ _ _ _ _ _ _ _ _ _ _ _ _ _ _ _ _ _ _ _ _ _ _ _ _ _ _ _ _ _ _ _ _ _ _ _ _ _ _ _ _ _ _ _ _ _ _ _ _ _ _ _ _ _ _ _ _ _ _ _ _ _ _ _ _ _ _ _ _ _ _ _ _ _ _ _ _ _ _ _ _ _ _ _ _ _ _ _ _ _ _ _ _ _ _ _ ⟨hn, ln3, ln5, ln6, ln8, ln9, ln10, HD, HTwo, HGn, sT, sU, sM, sI, sC, sF, rT, rU, rM, rI, rC, rF, HP, hvn, hun, hwn, hnmn, hxWc, Hl7, CA, CS, CD, CQ, EA, ES, ED, EQ⟩ hxF hLr ⟨DV, DU, DW, DM⟩ _ _ _ _ _ rfl rfl rfl ?_ ?_
                  all_goals assumption
end Go.Proofs.Qxb6601557a
