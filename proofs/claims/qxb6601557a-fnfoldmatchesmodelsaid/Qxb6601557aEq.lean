/-
  zzEqInts of two rows that hold the same, and zzAllMarked. By an AI agent.
-/
import Derived.Test.Qxb6601557aCliqA
import Derived.Deep.RegionWith
import Derived.Deep.CutRange
namespace Go.Proofs.Qxb6601557a
set_option linter.unusedVariables false
open Go.RowKit

theorem Rd.drewN {S : Nat → Prop} {w : World} {a : Option Addr} {n : Nat} {f : Nat → Value} (h : Rd S w a n f) (k : Nat) : Rd S (w.drewN k) a n f := h.ext ((Ext.refl (fun _ => False) w).drewN k) (fun _ _ h => h)

set_option maxHeartbeats 1000000 in
set_option maxRecDepth 100000 in
theorem eqInts_same (w : World) (S T : Nat → Prop) (m : Nat) (f : Nat → Int) (a0 a1 : Option Addr) (c0 c1 : Nat) (hm : m ≤ 1048576) (h0 : Rd S w a0 m (fun j => .int .i64 (f j))) (h1 : Rd T w a1 m (fun j => .int .i64 (f j))) :
    Calls Try.prog 20 #[.slice a0 m c0, .slice a1 m c1] w fun e w' => e = .returned (.bool true) ∧ ∃ k, w' = w.drewN k := by
  go_enter Try.func20, Try.ntmps20
  go_wp2_with fail
  go_loopw [5] (fun s5 wr => ∃ i k : Nat, i ≤ m ∧ s5 = .int .i64 i ∧ wr = w.drewN k) (fun i _ => m - (intOf i).toNat)
  case atStart => exact ⟨0, 0, Nat.zero_le _, rfl, rfl⟩
  case round =>
    obtain ⟨i, k, hi, rfl, rfl⟩ := hrel
    by_cases hil : i < m
    · obtain ⟨b, off, rfl, _, hc⟩ := h0 i hil
      obtain ⟨b1, off1, rfl, _, hc1⟩ := h1 i hil
      have g1 : (i : Int) < (m : Int) := by omega
      have g2 : (0 : Int) ≤ (i : Int) := by omega
      dsimp only at hc hc1
      go_upto_region 6 with fail
      go_quiet (fail)
      go_wp2_with fail
      go_roundw
      case rel => exact ⟨i + 1, _, by omega, by go_num, rfl⟩
      case measure => simp [intOf]; omega
    · go_wp2_with fail
      go_ret
      exact ⟨rfl, k, rfl⟩

theorem allB_succ (n : Nat) (p : Nat → Bool) : allB (n + 1) p = (allB n p && p n) := by
  unfold allB; rw [List.range_succ]; simp

theorem allB_stop {n i : Nat} {p : Nat → Bool} (hi : i < n) (h : p i = false) : allB n p = false := by
  unfold allB
  rw [List.all_eq_false]
  exact ⟨i, List.mem_range.2 hi, by rw [h]; simp⟩

set_option maxHeartbeats 1000000 in
set_option maxRecDepth 100000 in
theorem allMarked_any (w : World) (S T : Nat → Prop) (m n : Nat) (el : Nat → Nat) (mk : Nat → Bool) (a0 a1 : Option Addr) (c0 c1 : Nat) (hm : m ≤ 1048576) (h0 : Rd S w a0 m (fun j => .int .i64 (el j : Int))) (h1 : Rd T w a1 n (fun j => .bool (mk j))) (hn : ∀ i, i < m → el i < n) :
    Calls Try.prog 32 #[.slice a0 m c0, .slice a1 n c1] w fun e w' => e = .returned (.bool (allB m fun i => mk (el i))) ∧ w' = w := by
  have HN : Hid (∀ i, i < m → el i < n) := hn
  clear hn
  go_enter Try.func32, Try.ntmps32
  go_wp2_with fail
  go_loop [9] (fun s9 => ∃ i : Nat, i ≤ m ∧ s9 = .int .i64 i ∧ Hid (allB i (fun i => mk (el i)) = true)) (fun i => m - (intOf i).toNat)
  case atStart => exact ⟨0, Nat.zero_le _, rfl, rfl⟩
  case round =>
    obtain ⟨i, hi, rfl, hA⟩ := hrel
    by_cases hil : i < m
    · obtain ⟨b, off, rfl, _, hc⟩ := h0 i hil
      have hen := HN.out i hil
      obtain ⟨b1, off1, rfl, _, hc1⟩ := h1 (el i) hen
      dsimp only at hc hc1
      have hStop := fun h => allB_stop (p := fun i => mk (el i)) hil h
      have HStop : Hid (mk (el i) = false → allB m (fun i => mk (el i)) = false) := hStop
      have hNext : mk (el i) = true → allB (i + 1) (fun i => mk (el i)) = true := fun h => by rw [allB_succ, hA.out, h]; rfl
      have HNext : Hid (mk (el i) = true → allB (i + 1) (fun i => mk (el i)) = true) := hNext
      clear hStop hNext
      cases hme : mk (el i) with
      | true =>
        have HX : Hid (allB (i + 1) (fun i => mk (el i)) = true) := HNext.out hme
        simp only [hme] at hc1
        clear HStop HNext hme
        generalize el i = q at *
        go_wp2_with fail
        go_round
        case rel => exact ⟨i + 1, by omega, by go_num, HX⟩
        case measure => simp [intOf]; omega
      | false =>
        have HX : Hid (allB m (fun i => mk (el i)) = false) := HStop.out hme
        simp only [hme] at hc1
        clear HStop HNext hme
        generalize el i = q at *
        go_wp2_with fail
        go_ret
        exact ⟨by rw [HX.out]; rfl, rfl⟩
    · have ei : i = m := by omega
      subst i
      go_wp2_with fail
      go_ret
      exact ⟨by rw [hA.out]; rfl, rfl⟩
end Go.Proofs.Qxb6601557a
