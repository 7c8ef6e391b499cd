/-
  zzByDegreeDesc: the insertion sort lays the places in order. By an AI agent.
-/
import Derived.Test.Qxb6601557aPart
import Derived.Deep.CutRange
namespace Go.Proofs.Qxb6601557a
set_option linter.unusedVariables false
open Go.RowKit

/-- the first m places in order. -/
def Laid (K P Q : Nat → Nat) (m : Nat) : Prop := ∀ i, i < m → Q (rk m K i) = P i

theorem rk_step {m i : Nat} {K : Nat → Nat} (hi : i < m) : rk (m + 1) K i = rk m K i + (if K m < K i then 1 else 0) := by
  unfold rk
  rw [cnt_succ]
  simp only [decide_eq_true_eq]
  omega
theorem rk_last {m : Nat} {K : Nat → Nat} : rk (m + 1) K m = cnt m (fun i => decide (K i ≤ K m)) := by
  unfold rk
  rw [cnt_succ, cnt_or (r := fun i => decide (K i ≤ K m)) (p := fun i => decide (K i < K m)) (q := fun i => decide (K i = K m))]
  · simp
  · intro i _
    rw [Bool.eq_iff_iff]
    simp only [Bool.or_eq_true, decide_eq_true_eq]
    omega
  · intro i _ h1 h2
    simp only [decide_eq_true_eq] at h1 h2
    omega
theorem cnt_below {m j : Nat} {K : Nat → Nat} (hj : j ≤ m) : cnt m (fun i => decide (rk m K i < j)) = j := by
  have h1 := cnt_match m j (rk m K) (fun l => l) (fun a b ha hb e => rk_inj ha hb e) (fun a b _ _ e => e)
  have h2 : cnt m (fun i => decide (rk m K i < j)) = cnt m (fun i => memN j (fun l => l) (rk m K i)) := cnt_congr (fun i hi => by
    rw [Bool.eq_iff_iff, memN_iff, decide_eq_true_eq]
    constructor
    · intro h; exact ⟨_, h, rfl⟩
    · rintro ⟨l, hl, e⟩; omega)
  rw [h2, h1]
  have h3 : ∀ l, l < j → memN m (rk m K) l = true := fun l hl => by
    obtain ⟨i, hi, e⟩ := rk_onto (K := K) (show l < m by omega)
    exact memN_iff.2 ⟨i, hi, e⟩
  clear h1 h2
  induction j with
  | zero => rfl
  | succ j ih => rw [cnt_succ, ih (by omega) (fun l hl => h3 l (by omega)), h3 j (by omega)]; rfl

section
variable {K P Q Q' : Nat → Nat} {dg : Nat → Int} {m np j : Nat}

theorem Laid.get (h : Laid K P Q m) {l : Nat} (hl : l < m) : ∃ i, i < m ∧ rk m K i = l ∧ Q l = P i := by
  obtain ⟨i, hi, e⟩ := rk_onto (K := K) hl
  exact ⟨i, hi, e, by rw [← e]; exact h i hi⟩

theorem Laid.sorted (h : Laid K P Q m) (hm : m ≤ np) (hK : ∀ i i', i < np → i' < np → (K i < K i' ↔ dg (P i') < dg (P i))) {l l' : Nat} (hl : l < l') (hl' : l' < m) : ¬ dg (Q l) < dg (Q l') := by
  obtain ⟨i, hi, e, eq⟩ := h.get (show l < m by omega)
  obtain ⟨i', hi', e', eq'⟩ := h.get hl'
  have hb := (rk_lt_iff (K := K) hi hi').1 (by omega)
  rw [eq, eq', ← hK i' i (by omega) (by omega)]
  unfold bef at hb
  omega

theorem Laid.ins (h : Laid K P Q m) (hm : m < np) (hK : ∀ i i', i < np → i' < np → (K i < K i' ↔ dg (P i') < dg (P i))) (hjm : j ≤ m)
    (hlo : ∀ l, l < j → ¬ dg (Q l) < dg (P m)) (hhi : ∀ l, j ≤ l → l < m → dg (Q l) < dg (P m))
    (hQ1 : ∀ l, l < j → Q' l = Q l) (hQ2 : Q' j = P m) (hQ3 : ∀ l, j < l → l ≤ m → Q' l = Q (l - 1)) : Laid K P Q' (m + 1) := by
  have hsplit : ∀ i, i < m → (rk m K i < j ↔ K i ≤ K m) := by
    intro i hi
    have hr : rk m K i < m := rk_lt hi
    have hk := hK m i hm (by omega)
    have e := h i hi
    constructor
    · intro hlt
      have := hlo _ hlt
      rw [e] at this
      omega
    · intro hle
      rcases Nat.lt_or_ge (rk m K i) j with hx | hx
      · exact hx
      · have := hhi _ hx hr
        rw [e] at this
        omega
  intro i hi
  by_cases e : i = m
  · subst e
    have : rk (i + 1) K i = j := by
      rw [rk_last, ← cnt_below (K := K) hjm]
      exact cnt_congr (fun l hl => by rw [Bool.eq_iff_iff, decide_eq_true_eq, decide_eq_true_eq]; exact (hsplit l hl).symm)
    rw [this]; exact hQ2
  · have hi' : i < m := by omega
    have hr : rk m K i < m := rk_lt hi'
    rw [rk_step hi']
    have hs := hsplit i hi'
    by_cases hlt : rk m K i < j
    · rw [if_neg (by omega), Nat.add_zero, hQ1 _ hlt]; exact h i hi'
    · rw [if_pos (by omega), hQ3 _ (by omega) (by omega), Nat.add_sub_cancel]; exact h i hi'
end

/-- the row while places move up. -/
def shF (Q : Nat → Nat) (j m l : Nat) : Nat := if j < l ∧ l ≤ m then Q (l - 1) else Q l

theorem shF_start (Q : Nat → Nat) (m : Nat) : shF Q m m = Q := by
  funext l; unfold shF; rw [if_neg (by omega)]
theorem shF_step (Q : Nat → Nat) {j m : Nat} (hj : 0 < j) (hjm : j ≤ m) : shF Q (j - 1) m = upd1 (shF Q j m) j (Q (j - 1)) := by
  funext l
  by_cases e : l = j
  · subst e; rw [upd1_same]; unfold shF; rw [if_pos (by omega)]
  · rw [upd1_other _ _ _ _ e]
    unfold shF
    by_cases h : j < l ∧ l ≤ m
    · rw [if_pos h, if_pos (by omega)]
    · rw [if_neg h, if_neg (by omega)]

structure ByDeg (w w' : World) (np : Nat) (K P Q : Nat → Nat) : Prop where
  tab : Tab w w' 3 w.heap.size np (fun l => .int .i64 (Q l : Int))
  laid : Laid K P Q np

set_option maxHeartbeats 4000000 in
set_option maxRecDepth 100000 in
theorem byDeg_any (w : World) (S T : Nat → Prop) (n np : Nat) (P K : Nat → Nat) (dg : Nat → Int) (a0 a1 : Option Addr) (c0 c1 : Nat) (h0 : Rd S w a0 np (fun j => .int .i64 (P j : Int))) (h1 : Rd T w a1 n (fun j => .int .i64 (dg j))) (hP : ∀ i, i < np → P i < n) (hn : n ≤ 131072) (hnp : np ≤ 4096)
    (hK : ∀ i i', i < np → i' < np → (K i < K i' ↔ dg (P i') < dg (P i))) :
    Calls Try.prog 31 #[.slice a0 np c0, .slice a1 n c1] w fun e w' => ∃ Q, e = .returned (.slice (some ⟨w.heap.size, 0, none⟩) np np) ∧ ByDeg w w' np K P Q := by
  have HP : Hid (∀ i, i < np → P i < n) := hP
  have HK : Hid (∀ i i', i < np → i' < np → (K i < K i' ↔ dg (P i') < dg (P i))) := hK
  clear hP hK
  go_enter Try.func31, Try.ntmps31
  go_wp2_with (at_make; refine wpList_mk _ rfl _ _ 24 rfl 3 (.int .i64 0) 8 Try.underlying24 info3 rfl _ _ np rfl rfl rfl rfl (by omega) (by omega) ?_)
  intro w1 hown hx1 hsz
  have HT : Tab w w1 3 w.heap.size np (fun l => .int .i64 (((fun _ => 0) : Nat → Nat) l : Int)) := ⟨hx1, hown, Nat.le_refl _⟩
  clear hown hx1 hsz
  obtain ⟨g, hg⟩ : ∃ g, w.heap.size = g := ⟨_, rfl⟩
  have HG : Hid (w.heap.size = g) := hg
  rw [hg] at HT ⊢
  clear hg
  go_wp2_with fail
  go_loopw [6] (fun s6 wr => ∃ (m : Nat) (Q : Nat → Nat), m ≤ np ∧ s6 = .int .i64 m ∧ Tab w wr 3 g np (fun l => .int .i64 (Q l : Int)) ∧ Hid (Laid K P Q m)) (fun i _ => np - (intOf i).toNat)
  case atStart => exact ⟨0, fun _ => 0, Nat.zero_le _, rfl, HT, fun i hi => absurd hi (Nat.not_lt_zero i)⟩
  case round =>
    clear HT
    obtain ⟨m, Q, hm, rfl, hT, hL⟩ := hrel
    by_cases hml : m < np
    · obtain ⟨b, off, rfl, _, hc⟩ := (h0.ext hT.ext (fun _ _ h => h)) m hml
      have hpn := HP.out m hml
      have hQn : ∀ l, l < m → Q l < n := fun l hl => by obtain ⟨i, hi, _, e⟩ := hL.out.get hl; rw [e]; exact HP.out i (by omega)
      have HQn : Hid (∀ l, l < m → Q l < n) := hQn
      obtain ⟨p, hpe⟩ : ∃ p, P m = p := ⟨_, rfl⟩
      have HPe : Hid (P m = p) := hpe
      dsimp only at hc
      rw [hpe] at hc hpn
      clear hpe hQn
      have gp1 : (p : Int) < (n : Int) := by omega
      have gp0 : (0 : Int) ≤ (p : Int) := by omega
      have HT0 : Tab w wr 3 g np (fun l => .int .i64 (shF Q m m l : Int)) := by rw [shF_start]; exact hT
      rename World => wa
      go_wp2_with fail
      go_loopw [8] (fun s8 wr => ∃ j : Nat, j ≤ m ∧ s8 = .int .i64 j ∧ Tab w wr 3 g np (fun l => .int .i64 (shF Q j m l : Int)) ∧ Hid (∀ l, j ≤ l → l < m → dg (Q l) < dg p)) (fun i _ => (intOf i).toNat)
      case atStart => exact ⟨m, Nat.le_refl _, rfl, HT0, fun l h1 h2 => by omega⟩
      case round =>
        clear HT0 hT hc
        obtain ⟨j, hj, rfl, hT2, hHi⟩ := hrel
        obtain ⟨hcj, hfj, hputj⟩ := hT2.at j (by omega)
        have HEnd := (hputj (.int .i64 (p : Int))).congr (f' := fun l => .int .i64 ((upd1 (shF Q j m) j p l : Nat) : Int)) (fun l _ => upd_map (fun x : Nat => Value.int .i64 (x : Int)) (shF Q j m) j p l)
        have hEndL : (∀ l, l < j → ¬ dg (Q l) < dg p) → Laid K P (upd1 (shF Q j m) j p) (m + 1) := fun hlo =>
          hL.out.ins hml HK.out hj (by rw [HPe.out]; exact hlo) (by rw [HPe.out]; exact hHi.out) (fun l hl => by rw [upd1_other _ _ _ _ (by omega)]; unfold shF; rw [if_neg (by omega)]) (by rw [upd1_same, HPe.out]) (fun l h1 h2 => by rw [upd1_other _ _ _ _ (by omega)]; unfold shF; rw [if_pos ⟨h1, h2⟩])
        have HEndL : Hid ((∀ l, l < j → ¬ dg (Q l) < dg p) → Laid K P (upd1 (shF Q j m) j p) (m + 1)) := hEndL
        clear hEndL
        obtain ⟨bd, offd, rfl, _, hcd⟩ := (h1.ext hT2.ext (fun _ _ h => h)) p hpn
        dsimp only at hcd
        by_cases hj0 : 0 < j
        · obtain ⟨hcj1, _, _⟩ := hT2.at (j - 1) (by omega)
          have e1 : shF Q j m (j - 1) = Q (j - 1) := by unfold shF; rw [if_neg (by omega)]
          rw [e1] at hcj1
          have hqn := HQn.out (j - 1) (by omega)
          have HPut := (hputj (.int .i64 ((Q (j - 1) : Nat) : Int))).congr (f' := fun l => .int .i64 (shF Q (j - 1) m l : Int)) (fun l _ => by rw [shF_step Q hj0 hj]; exact upd_map (fun x : Nat => Value.int .i64 (x : Int)) (shF Q j m) j (Q (j - 1)) l)
          have hNew : dg (Q (j - 1)) < dg p → ∀ l, j - 1 ≤ l → l < m → dg (Q l) < dg p := fun h l h1 h2 => by
            by_cases e : l = j - 1
            · rw [e]; exact h
            · exact hHi.out l (by omega) h2
          have hOld : ¬ dg (Q (j - 1)) < dg p → ∀ l, l < j → ¬ dg (Q l) < dg p := fun h l hl => by
            by_cases e : l = j - 1
            · rw [e]; exact h
            · have := hL.out.sorted (by omega) HK.out (l := l) (l' := j - 1) (by omega) (by omega)
              omega
          have HNew : Hid (dg (Q (j - 1)) < dg p → ∀ l, j - 1 ≤ l → l < m → dg (Q l) < dg p) := hNew
          have HOld : Hid (¬ dg (Q (j - 1)) < dg p → ∀ l, l < j → ¬ dg (Q l) < dg p) := hOld
          clear hputj hNew hOld e1
          generalize Q (j - 1) = q at *
          obtain ⟨_, _, eD, _, hcdq⟩ := (h1.ext hT2.ext (fun _ _ h => h)) q hqn
          obtain ⟨rfl, rfl⟩ : bd = _ ∧ offd = _ := by simpa using eD
          clear eD
          dsimp only at hcdq
          have k1 : (q : Int) < (n : Int) := by omega
          have k2 : (0 : Int) ≤ (q : Int) := by omega
          have k3 : (j : Int) - 1 < (np : Int) := by omega
          have k4 : (0 : Int) ≤ (j : Int) - 1 := by omega
          have k5 : decide ((0 : Int) < (j : Int)) = true := by simp; omega
          have k6 : (0 : Int) < (j : Int) := by omega
          by_cases hlt : dg q < dg p
          · have k7 : decide (dg q < dg p) = true := by simp [hlt]
            have HN : Hid (∀ l, j - 1 ≤ l → l < m → dg (Q l) < dg p) := HNew.out hlt
            clear HEnd HEndL HNew HOld
            go_upto_region 7 with fail
            go_quiet (fail)
            go_wp2_with fail
            go_roundw
            case rel => exact ⟨j - 1, by omega, by go_num, HPut.drewN _, HN⟩
            case measure => simp [intOf]; omega
          · have k7 : decide (dg q < dg p) = false := by simp; omega
            have HL2 : Hid (Laid K P (upd1 (shF Q j m) j p) (m + 1)) := HEndL.out (HOld.out hlt)
            clear HPut HEndL HNew HOld
            go_upto_region 7 with fail
            go_quiet (fail)
            go_wp2_with fail
            go_roundw
            case rel => exact ⟨m + 1, _, by omega, by go_num, HEnd.drewN _, HL2⟩
            case measure => simp [intOf]; omega
        · have k5 : decide ((0 : Int) < (j : Int)) = false := by simp; omega
          have HL2 : Hid (Laid K P (upd1 (shF Q j m) j p) (m + 1)) := HEndL.out (fun l hl => by omega)
          clear HEndL hputj
          go_upto_region 7 with fail
          go_quiet (fail)
          go_wp2_with fail
          go_roundw
          case rel => exact ⟨m + 1, _, by omega, by go_num, HEnd.drewN _, HL2⟩
          case measure => simp [intOf]; omega
    · have em : m = np := by omega
      subst m
      go_wp2_with fail
      go_ret
      exact ⟨Q, by rw [HG.out]; rfl, by rw [HG.out]; exact hT, hL.out⟩
end Go.Proofs.Qxb6601557a
