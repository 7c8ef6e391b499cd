/-
  take. By an AI agent.
-/
import Derived.Test.Qxb6601557aTouch
import Derived.Deep.CutRange
namespace Go.Proofs.Qxb6601557a
set_option linter.unusedVariables false
open Go.RowKit

/-- the degrees, what is touched, behind the first i neighbours. -/
def runD (st : Nat → Int) (N : Nat → Nat) (g : Nat → Int) : Nat → Nat → Int
  | 0 => g
  | i + 1 => if st (N i) = 0 then upd (runD st N g i) (N i) (wrap64 (runD st N g i (N i) - 1)) else runD st N g i
def runT (st : Nat → Int) (N : Nat → Nat) (s : TS) : Nat → TS
  | 0 => s
  | i + 1 => if st (N i) = 0 then tS (runT st N s i) (N i) else runT st N s i

theorem tS_nu (s : TS) (q : Nat) : (tS s q).nu ≤ s.nu + 1 := by unfold tS; split <;> simp
theorem runT_nu (st : Nat → Int) (N : Nat → Nat) (s : TS) (i : Nat) : (runT st N s i).nu ≤ s.nu + i := by
  induction i with
  | zero => exact Nat.le_refl _
  | succ i ih =>
    unfold runT
    split
    · have := tS_nu (runT st N s i) (N i); omega
    · omega

structure TakeR (x x' : FA) (p : Nat) : Prop where
  g : EqG x x'
  st : x'.st = upd x.st p 3
  dg : x'.dg = runD (upd x.st p 3) (x.N p) x.dg (x.d p)
  tr : x'.tr = upd x.tr (x.L 3) (p : Int)
  l3 : x'.L 3 = x.L 3 + 1
  s4 : x'.s4 = wrap64 (x.s4 + x.d p)
  ts : x'.ts = runT (upd x.st p 3) (x.N p) x.ts (x.d p)

/-- take's loop: i neighbours have been met. -/
structure TakeI (x x' : FA) (p i : Nat) : Prop where
  g : EqG x x'
  st : x'.st = upd x.st p 3
  dg : x'.dg = runD (upd x.st p 3) (x.N p) x.dg i
  tr : x'.tr = upd x.tr (x.L 3) (p : Int)
  l3 : x'.L 3 = x.L 3 + 1
  s4 : x'.s4 = wrap64 (x.s4 + x.d p)
  ts : x'.ts = runT (upd x.st p 3) (x.N p) x.ts i

section
variable {W w : World} {tag : Nat → Nat} {bs : Nat} {x : FA}

set_option maxHeartbeats 4000000 in
set_option maxRecDepth 100000 in
theorem take_any (h : FM W tag w bs x) (n p : Nat) (hp : p < n) (h0 : x.L 0 = n) (h1 : x.L 1 = n) (h2 : x.L 2 = n) (h8 : x.L 8 = n) (hn : n ≤ 131072) (hdp : x.d p ≤ 131072) (hN : ∀ i, i < x.d p → x.N p i < n) (h7 : x.L 7 ≤ 900000000) (h3 : x.L 3 ≤ 900000000) :
    Calls Try.prog 44 #[.pointer (some ⟨bs, 0, none⟩), .int .i64 p, .int .i8 3] w fun e w' => e = .returned (.tuple #[]) ∧ ∃ tag' x', FM W tag' w' bs x' ∧ Stp W tag w tag' w' ∧ TakeR x x' p := by
  have HN : Hid (∀ i, i < x.d p → x.N p i < n) := hN
  clear hN
  obtain ⟨ra, hra⟩ : ∃ r, x.R p = r := ⟨_, rfl⟩
  have HRa : Hid (x.R p = ra) := hra
  clear hra
  have hc1 := h.sl 1 (by omega) (by omega) (by omega)
  obtain ⟨g1, eg1, hcs, hfs, hput⟩ := h.stAt p (by omega)
  rw [eg1, h1] at hc1
  obtain ⟨m1, s1⟩ := hput 3
  obtain ⟨x1, e1⟩ : ∃ y, y = ({ x with st := upd x.st p 3 } : FA) := ⟨_, rfl⟩
  rw [← e1] at m1
  have E1 : Hid (x1 = { x with st := upd x.st p 3 }) := e1
  have l13 : x1.L 3 = x.L 3 := by rw [e1]
  have hc3 := m1.sl 3 (by omega) (by omega) (by omega)
  rw [l13] at hc3
  have hTr := m1.tab 3 tab3
  rw [l13] at hTr
  clear hput e1
  go_enter Try.func44, Try.ntmps44
  go_wp2_with (at_builtin; refine wpList_app _ rfl (.tmp 19) (.tmp 21) 24 rfl 3 (.int .i64 0) 8 Try.underlying24 info3 rfl (Tg W tag 3) (x1.a 3) (x.L 3) (x1.C 3) (fun k => .int .i64 (x1.tr k)) rfl (hTr.alloc _) ⟨w.heap.size, 0, none⟩ 1 (.int .i64 (p : Int)) rfl (cell_new1 _ _ _ _ (by simp [World.setCell])) rfl (by omega) (by omega) ?_)
  intro a3 c3 w3 ho hx hsz
  rw [← l13] at ho
  obtain ⟨hd1, hd2, m2, s2⟩ := m1.ap 3 tab3 (by omega) (p : Int) false ((Ext.refl _ _).alloc _) (by simp [World.setCell]) ho hx
  have s2' := s1.trans s2
  rw [l13] at hd1 m2 s2'
  obtain ⟨x2, e2⟩ : ∃ y, y = x1.ap 3 a3 c3 (p : Int) false := ⟨_, rfl⟩
  rw [← e2] at m2
  have HI2 : EqG x x2 ∧ x2.st = upd x.st p 3 ∧ x2.dg = x.dg ∧ x2.tr = upd x.tr (x.L 3) (p : Int) ∧ x2.L 3 = x.L 3 + 1 ∧ x2.s4 = x.s4 ∧ x2.ts = x.ts := by
    have e1 := E1.out
    subst e2 e1
    refine ⟨⟨rfl, rfl, rfl, rfl, rfl, rfl, rfl, rfl, rfl, fun j h3 _ => ap_L _ _ _ _ _ _ _ h3⟩, rfl, rfl, rfl, ap_Lj _ _ _ _ _ _, rfl, ?_⟩
    simp [FA.ts, FA.ap, upd]
  clear e2 E1 l13 hTr ho hx hsz s1 s2 m1
  go_upto_region 2 with fail
  generalize w3.setCell ⟨bs, 3, none⟩ (.slice a3 (x.L 3 + 1) c3) = w4 at *
  generalize upd tag (w.heap.size + 1) 3 = tag2 at *
  obtain ⟨hG2, hst2, hdg2, htr2, hl32, hs42, hts2⟩ := HI2
  have hL20 : x2.L 0 = n := (hG2.L 0 (by omega) (by omega)).trans h0
  obtain ⟨hc4, hf4, hput4⟩ := m2.steps
  rw [hs42] at hc4
  have hf0 := m2.sl 0 (by omega) (by omega) (by omega)
  obtain ⟨g0, eg0, hcr, hrow⟩ := m2.row p (by omega)
  rw [eg0, hL20] at hf0
  rw [hG2.R, hG2.d, hG2.rc, HRa.out] at hcr
  obtain ⟨m3, s3⟩ := hput4 (wrap64 (x.s4 + x.d p))
  have hp0 : (0 : Int) ≤ (p : Int) := by omega
  have hpn : (p : Int) < (n : Int) := by omega
  have s3' := (s2'.trans s3).drew
  have m3' := m3.drew
  obtain ⟨x3, e3⟩ : ∃ y, y = ({ x2 with s4 := wrap64 (x.s4 + x.d p) } : FA) := ⟨_, rfl⟩
  rw [← e3] at m3'
  have HT3 : TakeI x x3 p 0 := by
    subst e3
    exact ⟨⟨hG2.R, hG2.rc, hG2.d, hG2.N, hG2.ma, hG2.sd, hG2.sc, hG2.F, hG2.s5, hG2.L⟩, hst2, hdg2, htr2, hl32, rfl, hts2⟩
  clear e3 hput4 m3 s3 s2' m2 hG2 hst2 hdg2 htr2 hl32 hs42 hts2 hrow hd1 hd2 hc3
  go_region
  generalize (w4.setCell ⟨bs, 4, none⟩ (.int .i64 (wrap64 (x.s4 + x.d p)))).drew = w5 at *
  have hL30 : x3.L 0 = n := (HT3.g.L 0 (by omega) (by omega)).trans h0
  have hf03 := m3'.sl 0 (by omega) (by omega) (by omega)
  obtain ⟨g03, eg03, hcr3, hrow3⟩ := m3'.row p (by omega)
  rw [eg03, hL30] at hf03
  rw [HT3.g.R, HT3.g.d, HT3.g.rc, HRa.out] at hcr3
  clear hc4 hf4 hf0 hcr hcs hfs hc1 hrow3
  go_wp2_with fail
  go_loopw [48] (fun s48 wr => ∃ (i : Nat) (tg : Nat → Nat) (y : FA), i ≤ x.d p ∧ s48 = .int .i64 i ∧ FM W tg wr bs y ∧ Stp W tag w tg wr ∧ TakeI x y p i) (fun i _ => x.d p - (intOf i).toNat)
  case atStart => exact ⟨0, tag2, x3, Nat.zero_le _, rfl, m3', s3', HT3⟩
  case round =>
    clear m3' s3' HT3 hf03 hcr3 hL30 eg03
    obtain ⟨i, tg, y, hi, rfl, hm, hs, hT⟩ := hrel
    by_cases hil : i < x.d p
    · have hNn := HN.out i hil
      have hrw := hm.rows p (by rw [hT.g.L 0 (by omega) (by omega)]; omega)
      rw [hT.g.R, hT.g.d, hT.g.N, HRa.out] at hrw
      obtain ⟨b2, off2, rfl, _, hc2⟩ := hrw i hil
      have hL1 : y.L 1 = n := (hT.g.L 1 (by omega) (by omega)).trans h1
      have hL2 : y.L 2 = n := (hT.g.L 2 (by omega) (by omega)).trans h2
      have hL8 : y.L 8 = n := (hT.g.L 8 (by omega) (by omega)).trans h8
      have hc1 := hm.sl 1 (by omega) (by omega) (by omega)
      obtain ⟨g1, eg1, hcs, _, _⟩ := hm.stAt (x.N p i) (by omega)
      rw [eg1, hL1] at hc1
      rw [hT.st] at hcs
      by_cases hz : upd x.st p 3 (x.N p i) = 0
      · have hcD := hm.sl 2 (by omega) (by omega) (by omega)
        obtain ⟨g2, eg2, hcd, hfd, hput⟩ := hm.dgAt (x.N p i) (by omega)
        rw [eg2, hL2] at hcD
        obtain ⟨m4, s4⟩ := hput (wrap64 (y.dg (x.N p i) - 1))
        have s4' := hs.trans s4
        obtain ⟨y2, e4⟩ : ∃ z, z = ({ y with dg := upd y.dg (x.N p i) (wrap64 (y.dg (x.N p i) - 1)) } : FA) := ⟨_, rfl⟩
        rw [← e4] at m4
        have hG4 : EqG x y2 ∧ y2.st = upd x.st p 3 ∧ y2.dg = runD (upd x.st p 3) (x.N p) x.dg (i + 1) ∧ y2.tr = upd x.tr (x.L 3) (p : Int) ∧ y2.L 3 = x.L 3 + 1 ∧ y2.s4 = wrap64 (x.s4 + x.d p) ∧ y2.ts = runT (upd x.st p 3) (x.N p) x.ts i := by
          subst e4
          refine ⟨⟨hT.g.R, hT.g.rc, hT.g.d, hT.g.N, hT.g.ma, hT.g.sd, hT.g.sc, hT.g.F, hT.g.s5, hT.g.L⟩, hT.st, ?_, hT.tr, hT.l3, hT.s4, hT.ts⟩
          show upd y.dg _ _ = _
          rw [runD, if_pos hz, hT.dg]
        have hTn : runT (upd x.st p 3) (x.N p) x.ts (i + 1) = tS (runT (upd x.st p 3) (x.N p) x.ts i) (x.N p i) := by rw [runT, if_pos hz]
        have HTn : Hid (runT (upd x.st p 3) (x.N p) x.ts (i + 1) = tS (runT (upd x.st p 3) (x.N p) x.ts i) (x.N p i)) := hTn
        have hnu := runT_nu (upd x.st p 3) (x.N p) x.ts i
        rw [← hG4.2.2.2.2.2.2] at hnu
        have hnu2 : y2.L 7 ≤ x.L 7 + i := hnu
        have hL82 : y2.L 8 = n := (hG4.1.L 8 (by omega) (by omega)).trans h8
        have HG4 : Hid (EqG x y2 ∧ y2.st = upd x.st p 3 ∧ y2.dg = runD (upd x.st p 3) (x.N p) x.dg (i + 1) ∧ y2.tr = upd x.tr (x.L 3) (p : Int) ∧ y2.L 3 = x.L 3 + 1 ∧ y2.s4 = wrap64 (x.s4 + x.d p) ∧ y2.ts = runT (upd x.st p 3) (x.N p) x.ts i) := hG4
        rw [hz] at hcs
        dsimp only at hc2 hcd
        have HNi : Hid (x.N p i = x.N p i) := rfl
        clear hput e4 hG4 hTn hnu hm hT hs s4
        generalize hr : x.N p i = r at *
        have Hr : Hid (x.N p i = r) := hr
        clear hr hz HNi
        generalize y.dg r = yd at *
        go_wp2_with fail
        refine (touch_any m4 r (by omega) (by omega) (by omega)).mono ?_
        rintro e w6 ⟨rfl, tag6, y3, m6, s6, hT6⟩
        have s6' := s4'.trans s6
        have HT6 : TakeI x y3 p (i + 1) := by
          obtain ⟨k1, k2, k3, k4, k5, k6, k7⟩ := HG4.out
          exact ⟨k1.trans hT6.g, hT6.st.trans k2, hT6.dg.trans k3, hT6.tr.trans k4, hT6.l3.trans k5, hT6.s4.trans k6, by rw [HTn.out, hT6.ts, k7]⟩
        clear hT6 HG4 HTn m4 s4' s6
        go_wp2_with fail
        go_roundw
        case rel => exact ⟨i + 1, tag6, y3, by omega, by go_num, m6, s6', HT6⟩
        case measure => simp [intOf]; omega
      · have hz1 : (upd x.st p 3 (x.N p i) == 0) = false := by rw [beq_eq_false_iff_ne]; exact hz
        have HT2 : TakeI x y p (i + 1) := ⟨hT.g, hT.st, by rw [runD, if_neg hz]; exact hT.dg, hT.tr, hT.l3, hT.s4, by rw [runT, if_neg hz]; exact hT.ts⟩
        dsimp only at hc2 hcs
        generalize upd x.st p 3 (x.N p i) = sv at *
        generalize x.N p i = r at *
        go_wp2_with fail
        go_roundw
        case rel => exact ⟨i + 1, tg, y, by omega, by go_num, hm, hs, HT2⟩
        case measure => simp [intOf]; omega
    · obtain rfl : i = x.d p := by omega
      go_wp2_with fail
      go_end0
      exact ⟨rfl, tg, y, hm, hs, ⟨hT.g, hT.st, hT.dg, hT.tr, hT.l3, hT.s4, hT.ts⟩⟩
end
end Go.Proofs.Qxb6601557a
