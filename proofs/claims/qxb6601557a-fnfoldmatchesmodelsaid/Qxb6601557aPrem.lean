/-
  zzFreeCount, zzDegOK, zzTwoFree, zzFoldGraphPremise. By an AI agent.
-/
import Derived.Test.Qxb6601557aWF
import Derived.Test.Qxb6601557aCount
import Derived.Test.Qxb6601557aFoldA
import Derived.Deep.CutRange
namespace Go.Proofs.Qxb6601557a
set_option linter.unusedVariables false
open Go.RowKit

def isF (st : Nat → Int) (j : Nat) : Bool := decide (st j = 0)

theorem isF_true {st : Nat → Int} {j : Nat} (h : st j = 0) : isF st j = true := by simp [isF, h]
theorem isF_false {st : Nat → Int} {j : Nat} (h : st j ≠ 0) : isF st j = false := by simp [isF, h]

set_option maxHeartbeats 1000000 in
theorem freeCount_any (S : Nat → Prop) (a : Option Addr) (n c : Nat) (st : Nat → Int) (w : World) (hn : n ≤ 1048577) (hr : Rd S w a n (fun j => .int .i8 (st j))) :
    Calls Try.prog 27 #[.slice a n c] w fun e w' => e = .returned (.int .i64 (cnt n (isF st) : Int)) ∧ w' = w := by
  go_enter Try.func27, Try.ntmps27
  go_wp2_with fail
  go_loop [3, 4] (fun s3 s4 => ∃ k m : Nat, k ≤ n ∧ m ≤ k ∧ s4 = .int .i64 k ∧ s3 = .int .i64 m ∧ Hid (m = cnt k (isF st))) (fun _ i => n - (intOf i).toNat)
  case atStart => exact ⟨0, 0, Nat.zero_le _, Nat.le_refl _, rfl, rfl, rfl⟩
  case round =>
    obtain ⟨k, m, hk, hmk, rfl, rfl, hm⟩ := hrel
    by_cases hlt : k < n
    · obtain ⟨b, off, rfl, _, hc⟩ := hr k hlt
      dsimp only at hc
      by_cases hz : st k = 0
      · have H : Hid (m + 1 = cnt (k + 1) (isF st)) := by rw [hm.out, cnt_succ, isF_true hz]; exact rfl
        rw [hz] at hc
        clear hz hm
        go_wp2_with fail
        go_round
        case rel => exact ⟨k + 1, m + 1, by omega, by omega, by go_num, by go_num, H⟩
        case measure => simp [intOf]; omega
      · have H : Hid (m = cnt (k + 1) (isF st)) := by rw [hm.out, cnt_succ, isF_false hz]; exact rfl
        have e1 : (st k == 0) = false := by rw [beq_eq_false_iff_ne]; exact hz
        clear hm hz
        generalize st k = sv at *
        go_wp2_with fail
        go_round
        case rel => exact ⟨k + 1, m, by omega, by omega, by go_num, rfl, H⟩
        case measure => simp [intOf]; omega
    · obtain rfl : k = n := by omega
      go_wp2_with fail
      go_ret
      exact ⟨by rw [hm.out]; rfl, rfl⟩

/-- every free place's degree is its count of free neighbours. -/
def DegOk (n : Nat) (d : Nat → Nat) (N : Nat → Nat → Nat) (st dg : Nat → Int) : Prop := ∀ p, p < n → st p = 0 → (cnt (d p) (fun i => isF st (N p i)) : Int) = dg p

structure DegRes (n : Nat) (d : Nat → Nat) (N : Nat → Nat → Nat) (st dg : Nat → Int) (w : World) (e : Ending) (w' : World) : Prop where
  ret : ∃ r, e = .returned (.bool r) ∧ (r = true ↔ DegOk n d N st dg)
  same : w' = w

set_option maxHeartbeats 2000000 in
theorem degOk_any (S : Nat → Prop) (a0 a1 a2 : Option Addr) (n c0 c1 c2 : Nat) (d : Nat → Nat) (N : Nat → Nat → Nat) (st dg : Nat → Int) (w : World) (hn : n ≤ 200000) (hd : ∀ p, p < n → d p ≤ 200000) (hN : ∀ p, p < n → ∀ i, i < d p → N p i < n)
    (r0 : RdAdj S w a0 n d (fun p i => (N p i : Int))) (r1 : Rd S w a1 n (fun j => .int .i8 (st j))) (r2 : Rd S w a2 n (fun j => .int .i64 (dg j))) :
    Calls Try.prog 25 #[.slice a0 n c0, .slice a1 n c1, .slice a2 n c2] w (DegRes n d N st dg w) := by
  have HN : Hid (∀ p, p < n → ∀ i, i < d p → N p i < n) := hN
  have HD : Hid (∀ p, p < n → d p ≤ 200000) := hd
  clear hN hd
  go_enter Try.func25, Try.ntmps25
  go_wp2_with fail
  go_loop [7] (fun s7 => ∃ k : Nat, k ≤ n ∧ s7 = .int .i64 k ∧ Hid (∀ p, p < k → st p = 0 → (cnt (d p) (fun i => isF st (N p i)) : Int) = dg p)) (fun i => n - (intOf i).toNat)
  case atStart => exact ⟨0, Nat.zero_le _, rfl, fun p hp => absurd hp (Nat.not_lt_zero p)⟩
  case round =>
    obtain ⟨k, hk, rfl, hok⟩ := hrel
    by_cases hlt : k < n
    · obtain ⟨b1, o1, rfl, _, hc1⟩ := r1 k hlt
      dsimp only at hc1
      by_cases hz : st k = 0
      · rw [hz] at hc1
        have Hz : Hid (st k = 0) := hz
        clear hz
        obtain ⟨b0, o0, ra, rc, rfl, _, hcell, hdm, hrow⟩ := r0 k hlt
        have hdk := HD.out k hlt
        go_wp2_with fail
        go_loop [8, 39] (fun s8 s39 => ∃ i m : Nat, i ≤ d k ∧ m ≤ i ∧ s39 = .int .i64 i ∧ s8 = .int .i64 m ∧ Hid (m = cnt i (fun i => isF st (N k i)))) (fun _ i => d k - (intOf i).toNat)
        case atStart => exact ⟨0, 0, Nat.zero_le _, Nat.le_refl _, rfl, rfl, rfl⟩
        case round =>
          obtain ⟨i, m, hi, hmi, rfl, rfl, hm⟩ := hrel
          by_cases hil : i < d k
          · obtain ⟨b, off, rfl, _, hc⟩ := hrow i hil
            have hNn := HN.out k hlt i hil
            obtain ⟨b1', o1', e1', _, hcs⟩ := r1 (N k i) hNn
            obtain ⟨rfl, rfl⟩ : b1 = b1' ∧ o1 = o1' := by simpa using e1'
            dsimp only at hc hcs
            by_cases hz : st (N k i) = 0
            · have H : Hid (m + 1 = cnt (i + 1) (fun i => isF st (N k i))) := by rw [hm.out, cnt_succ, isF_true hz]; exact rfl
              rw [hz] at hcs
              have g1 : ((N k i : Nat) : Int) < (n : Int) := by omega
              clear hz hm e1'
              generalize N k i = r at *
              go_wp2_with fail
              go_round
              case rel => exact ⟨i + 1, m + 1, by omega, by omega, by go_num, by go_num, H⟩
              case measure => simp [intOf]; omega
            · have H : Hid (m = cnt (i + 1) (fun i => isF st (N k i))) := by rw [hm.out, cnt_succ, isF_false hz]; exact rfl
              have e1 : (st (N k i) == 0) = false := by rw [beq_eq_false_iff_ne]; exact hz
              have g1 : ((N k i : Nat) : Int) < (n : Int) := by omega
              clear hm hz e1'
              generalize st (N k i) = sv at *
              generalize N k i = r at *
              go_wp2_with fail
              go_round
              case rel => exact ⟨i + 1, m, by omega, by omega, by go_num, rfl, H⟩
              case measure => simp [intOf]; omega
          · obtain rfl : i = d k := by omega
            obtain ⟨b2, o2, rfl, _, hc2⟩ := r2 k hlt
            dsimp only at hc2
            by_cases he : (m : Int) = dg k
            · have H : Hid (∀ p, p < k + 1 → st p = 0 → (cnt (d p) (fun i => isF st (N p i)) : Int) = dg p) := by
                intro p hp hs
                by_cases e : p = k
                · subst e; rw [← hm.out]; exact he
                · exact hok.out p (by omega) hs
              rw [← he] at hc2
              clear he hm
              go_wp2_with fail
              go_round
              case rel => exact ⟨k + 1, by omega, by go_num, H⟩
              case measure => simp [intOf]; omega
            · have e1 : ((m : Int) == dg k) = false := by rw [beq_eq_false_iff_ne]; exact he
              have e2 : ((m : Int) != dg k) = true := by simp [bne, e1]
              have H : ¬ DegOk n d N st dg := fun h => he (by rw [hm.out]; exact h k hlt Hz.out)
              have H2 : Hid (¬ DegOk n d N st dg) := H
              clear he hm H
              generalize dg k = dv at *
              go_wp2_with fail
              go_ret
              exact ⟨⟨false, rfl, by simp [H2.out]⟩, rfl⟩
      · have e1 : (st k == 0) = false := by rw [beq_eq_false_iff_ne]; exact hz
        have e2 : (st k != 0) = true := by simp [bne, e1]
        have H : Hid (∀ p, p < k + 1 → st p = 0 → (cnt (d p) (fun i => isF st (N p i)) : Int) = dg p) := by
          intro p hp hs
          by_cases e : p = k
          · subst e; exact absurd hs hz
          · exact hok.out p (by omega) hs
        clear hz
        generalize st k = sv at *
        go_wp2_with fail
        go_round
        case rel => exact ⟨k + 1, by omega, by go_num, H⟩
        case measure => simp [intOf]; omega
    · obtain rfl : k = n := by omega
      go_wp2_with fail
      go_ret
      exact ⟨⟨true, rfl, by simp; exact hok.out⟩, rfl⟩

/-- v's free neighbours among the first i: the first, the last, how many. -/
structure TF (N : Nat → Nat) (st : Nat → Int) (i : Nat) (zu zw : Int) (c : Nat) : Prop where
  zero : c = 0 → ∀ j, j < i → st (N j) ≠ 0
  one : c = 1 → ∃ iu, iu < i ∧ zu = (N iu : Int) ∧ st (N iu) = 0 ∧ ∀ j, j < i → st (N j) = 0 → j = iu
  two : 2 ≤ c → ∃ iu iw, iu < iw ∧ iw < i ∧ zu = (N iu : Int) ∧ zw = (N iw : Int) ∧ st (N iu) = 0 ∧ st (N iw) = 0 ∧ (c = 2 → ∀ j, j < i → st (N j) = 0 → j = iu ∨ j = iw)

theorem TF.start (N : Nat → Nat) (st : Nat → Int) (zu zw : Int) : TF N st 0 zu zw 0 := ⟨fun _ j hj => absurd hj (Nat.not_lt_zero j), fun h => by omega, fun h => by omega⟩

theorem TF.skip {N : Nat → Nat} {st : Nat → Int} {i : Nat} {zu zw : Int} {c : Nat} (h : TF N st i zu zw c) (hz : st (N i) ≠ 0) : TF N st (i + 1) zu zw c := by
  have ex : ∀ {P : Nat → Prop}, (∀ j, j < i → st (N j) = 0 → P j) → ∀ j, j < i + 1 → st (N j) = 0 → P j := by
    intro P hP j hj hs
    by_cases e : j = i
    · subst e; exact absurd hs hz
    · exact hP j (by omega) hs
  refine ⟨fun hc j hj => ?_, fun hc => ?_, fun hc => ?_⟩
  · by_cases e : j = i
    · subst e; exact hz
    · exact h.zero hc j (by omega)
  · obtain ⟨iu, h1, h2, h3, h4⟩ := h.one hc
    exact ⟨iu, by omega, h2, h3, ex h4⟩
  · obtain ⟨iu, iw, h1, h2, h3, h4, h5, h6, h7⟩ := h.two hc
    exact ⟨iu, iw, h1, by omega, h3, h4, h5, h6, fun hc2 => ex (h7 hc2)⟩

theorem TF.first {N : Nat → Nat} {st : Nat → Int} {i : Nat} {zu zw : Int} (h : TF N st i zu zw 0) (hz : st (N i) = 0) : TF N st (i + 1) (N i : Int) zw 1 := by
  refine ⟨fun hc => by omega, fun _ => ⟨i, by omega, rfl, hz, fun j hj hs => ?_⟩, fun hc => by omega⟩
  by_cases e : j = i
  · exact e
  · exact absurd hs (h.zero rfl j (by omega))

theorem TF.next {N : Nat → Nat} {st : Nat → Int} {i : Nat} {zu zw : Int} {c : Nat} (h : TF N st i zu zw c) (hc : 1 ≤ c) (hz : st (N i) = 0) : TF N st (i + 1) zu (N i : Int) (c + 1) := by
  refine ⟨fun hc => by omega, fun hc => by omega, fun _ => ?_⟩
  by_cases e : c = 1
  · subst e
    obtain ⟨iu, h1, h2, h3, h4⟩ := h.one rfl
    refine ⟨iu, i, h1, by omega, h2, rfl, h3, hz, fun _ j hj hs => ?_⟩
    by_cases e : j = i
    · exact .inr e
    · exact .inl (h4 j (by omega) hs)
  · obtain ⟨iu, iw, h1, h2, h3, h4, h5, h6, h7⟩ := h.two (by omega)
    exact ⟨iu, i, by omega, by omega, h3, rfl, h5, hz, fun hc => by omega⟩

set_option maxHeartbeats 2000000 in
theorem twoFree_any (S : Nat → Prop) (a0 a1 : Option Addr) (n c0 c1 v : Nat) (d : Nat → Nat) (N : Nat → Nat → Nat) (st : Nat → Int) (w : World) (hn : n ≤ 200000) (hv : v < n) (hd : d v ≤ 200000) (hN : ∀ i, i < d v → N v i < n)
    (r0 : RdAdj S w a0 n d (fun p i => (N p i : Int))) (r1 : Rd S w a1 n (fun j => .int .i8 (st j))) :
    Calls Try.prog 18 #[.slice a0 n c0, .slice a1 n c1, .int .i64 v] w fun e w' => ∃ (zu zw : Int) (c : Nat), e = .returned (.tuple #[.int .i64 zu, .int .i64 zw, .int .i64 (c : Int)]) ∧ TF (N v) st (d v) zu zw c ∧ w' = w := by
  have HN : Hid (∀ i, i < d v → N v i < n) := hN
  clear hN
  obtain ⟨b0, o0, ra, rc, rfl, _, hcell, hdm, hrow⟩ := r0 v hv
  have g1 : (v : Int) < (n : Int) := by omega
  go_enter Try.func18, Try.ntmps18
  go_wp2_with fail
  go_loop [9, 10, 11, 19] (fun s9 s10 s11 s19 => ∃ (i c : Nat) (zu zw : Int), i ≤ d v ∧ c ≤ i ∧ s19 = .int .i64 i ∧ s9 = .int .i64 zu ∧ s10 = .int .i64 zw ∧ s11 = .int .i64 c ∧ TF (N v) st i zu zw c) (fun _ _ _ i => d v - (intOf i).toNat)
  case atStart => exact ⟨0, 0, _, _, Nat.zero_le _, Nat.le_refl _, rfl, rfl, rfl, rfl, TF.start _ _ _ _⟩
  case round =>
    obtain ⟨i, c, zu, zw, hi, hci, rfl, rfl, rfl, rfl, hT⟩ := hrel
    by_cases hil : i < d v
    · obtain ⟨b, off, rfl, _, hc⟩ := hrow i hil
      have hNn := HN.out i hil
      obtain ⟨b1, o1, rfl, _, hcs⟩ := r1 (N v i) hNn
      dsimp only at hc hcs
      by_cases hz : st (N v i) = 0
      · rw [hz] at hcs
        by_cases hc0 : c = 0
        · subst hc0
          have hT2 := hT.first hz
          clear hz hT
          generalize N v i = r at *
          go_wp2_with fail
          go_round
          case rel => exact ⟨i + 1, 1, _, _, by omega, by omega, by go_num, rfl, rfl, by go_num, hT2⟩
          case measure => simp [intOf]; omega
        · have hT2 := hT.next (by omega) hz
          have e1 : ((c : Int) == 0) = false := by rw [beq_eq_false_iff_ne]; omega
          clear hz hT hc0
          generalize N v i = r at *
          go_wp2_with fail
          go_round
          case rel => exact ⟨i + 1, c + 1, _, _, by omega, by omega, by go_num, rfl, rfl, by go_num, hT2⟩
          case measure => simp [intOf]; omega
      · have hT2 := hT.skip hz
        have e1 : (st (N v i) == 0) = false := by rw [beq_eq_false_iff_ne]; exact hz
        clear hz hT
        generalize st (N v i) = sv at *
        generalize N v i = r at *
        go_wp2_with fail
        go_round
        case rel => exact ⟨i + 1, c, _, _, by omega, by omega, by go_num, rfl, rfl, rfl, hT2⟩
        case measure => simp [intOf]; omega
    · obtain rfl : i = d v := by omega
      go_wp2_with fail
      go_ret3
      exact ⟨zu, zw, c, rfl, hT, rfl⟩
end Go.Proofs.Qxb6601557a
