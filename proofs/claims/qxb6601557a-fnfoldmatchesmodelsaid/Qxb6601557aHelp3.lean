/-
  zzWithInt, zzWithInt8, zzEqInt8s. By an AI agent.
-/
import Derived.Test.Qxb6601557aEq
import Derived.Test.Qxb6601557aCopy
namespace Go.Proofs.Qxb6601557a
set_option linter.unusedVariables false
open Go.RowKit

/-- a copy with one element more, in a new block. -/
structure Withed (e : TypeId) (w w' : World) (n : Nat) (f : Nat → Value) : Prop where
  own : Own (fun k => k = w.heap.size) e w' (some ⟨w.heap.size, 0, none⟩) (n + 1) (n + 1) f
  ext : Ext (fun _ => False) w w'
  size : w'.heap.size = w.heap.size + 1

theorem Copying.withed {e : TypeId} {w wr : World} {n : Nat} {f : Nat → Value} {z : Value} (h : Copying e w wr (n + 1) (n + 1) f z) : Withed e w wr n f :=
  ⟨h.own.congr (fun j hj => by simp [hj]), h.ext, h.size⟩

set_option maxHeartbeats 1000000 in
theorem withInt_any (S : Nat → Prop) (a : Option Addr) (n cap : Nat) (f : Nat → Int) (z : Int) (w : World) (hbig : n ≤ 1048576) (hr : Rd S w a n (fun j => .int .i64 (f j))) :
    Calls Try.prog 21 #[.slice a n cap, .int .i64 z] w fun e w' => e = .returned (.slice (some ⟨w.heap.size, 0, none⟩) (n + 1) (n + 1)) ∧ Withed 3 w w' n (fun j => .int .i64 (upd f n z j)) := by
  go_enter Try.func21, Try.ntmps21
  go_wp2_with (at_make; refine wpList_mk _ rfl _ _ 24 rfl 3 (.int .i64 0) 8 Try.underlying24 info3 rfl _ _ (n + 1) rfl rfl (by omega) (by omega) (by omega) (by omega) ?_)
  intro w1 hown hext hsz
  have HC : Copying 3 w w1 (n + 1) 0 (fun j => .int .i64 (upd f n z j)) (.int .i64 0) := Copying.start hown hext hsz
  clear hown hext hsz
  go_wp2_with fail
  go_loopw [6] (fun i wr => ∃ k : Nat, k ≤ n ∧ i = .int .i64 k ∧ Copying 3 w wr (n + 1) k (fun j => .int .i64 (upd f n z j)) (.int .i64 0))
    (fun i _ => n - (intOf i).toNat)
  case atStart => exact ⟨0, Nat.zero_le _, rfl, HC⟩
  case round =>
    clear HC
    obtain ⟨k, hk, rfl, hcp⟩ := hrel
    by_cases hlt : k < n
    · obtain ⟨b, off, rfl, _, hcell⟩ := (hr.ext hcp.ext (fun _ _ h => h)) k hlt
      obtain ⟨hf, hc, hst⟩ := hcp.step (show k < n + 1 by omega)
      dsimp only at hcell hst
      rw [upd_other _ _ _ _ (by omega)] at hst
      generalize f k = fk at *
      go_wp2_with fail
      go_roundw
      case rel => exact ⟨k + 1, by omega, by go_num, hst⟩
      case measure => simp [intOf]; omega
    · obtain rfl : k = n := by omega
      obtain ⟨hf, hc, hst⟩ := hcp.step (show k < k + 1 by omega)
      rw [upd_same] at hst
      go_wp2_with fail
      go_ret
      exact ⟨rfl, hst.withed⟩

set_option maxHeartbeats 1000000 in
theorem withInt8_any (S : Nat → Prop) (a : Option Addr) (n cap : Nat) (f : Nat → Int) (z : Int) (w : World) (hbig : n ≤ 1048576) (hr : Rd S w a n (fun j => .int .i8 (f j))) :
    Calls Try.prog 23 #[.slice a n cap, .int .i8 z] w fun e w' => e = .returned (.slice (some ⟨w.heap.size, 0, none⟩) (n + 1) (n + 1)) ∧ Withed 39 w w' n (fun j => .int .i8 (upd f n z j)) := by
  go_enter Try.func23, Try.ntmps23
  go_wp2_with (at_make; refine wpList_mk _ rfl _ _ 23 rfl 39 (.int .i8 0) 1 Try.underlying23 info39 rfl _ _ (n + 1) rfl rfl (by omega) (by omega) (by omega) (by omega) ?_)
  intro w1 hown hext hsz
  have HC : Copying 39 w w1 (n + 1) 0 (fun j => .int .i8 (upd f n z j)) (.int .i8 0) := Copying.start hown hext hsz
  clear hown hext hsz
  go_wp2_with fail
  go_loopw [6] (fun i wr => ∃ k : Nat, k ≤ n ∧ i = .int .i64 k ∧ Copying 39 w wr (n + 1) k (fun j => .int .i8 (upd f n z j)) (.int .i8 0))
    (fun i _ => n - (intOf i).toNat)
  case atStart => exact ⟨0, Nat.zero_le _, rfl, HC⟩
  case round =>
    clear HC
    obtain ⟨k, hk, rfl, hcp⟩ := hrel
    by_cases hlt : k < n
    · obtain ⟨b, off, rfl, _, hcell⟩ := (hr.ext hcp.ext (fun _ _ h => h)) k hlt
      obtain ⟨hf, hc, hst⟩ := hcp.step (show k < n + 1 by omega)
      dsimp only at hcell hst
      rw [upd_other _ _ _ _ (by omega)] at hst
      generalize f k = fk at *
      go_wp2_with fail
      go_roundw
      case rel => exact ⟨k + 1, by omega, by go_num, hst⟩
      case measure => simp [intOf]; omega
    · obtain rfl : k = n := by omega
      obtain ⟨hf, hc, hst⟩ := hcp.step (show k < k + 1 by omega)
      rw [upd_same] at hst
      go_wp2_with fail
      go_ret
      exact ⟨rfl, hst.withed⟩

set_option maxHeartbeats 1000000 in
set_option maxRecDepth 100000 in
theorem eqInt8s_same (w : World) (S T : Nat → Prop) (m : Nat) (f : Nat → Int) (a0 a1 : Option Addr) (c0 c1 : Nat) (hm : m ≤ 2097152) (h0 : Rd S w a0 m (fun j => .int .i8 (f j))) (h1 : Rd T w a1 m (fun j => .int .i8 (f j))) :
    Calls Try.prog 22 #[.slice a0 m c0, .slice a1 m c1] w fun e w' => e = .returned (.bool true) ∧ ∃ k, w' = w.drewN k := by
  go_enter Try.func22, Try.ntmps22
  go_wp2_with fail
  go_loopw [5] (fun s5 wr => ∃ i k : Nat, i ≤ m ∧ s5 = .int .i64 i ∧ wr = w.drewN k) (fun i _ => m - (intOf i).toNat)
  case atStart => exact ⟨0, 0, Nat.zero_le _, rfl, rfl⟩
  case round =>
    obtain ⟨i, k, hi, rfl, rfl⟩ := hrel
    by_cases hil : i < m
    · obtain ⟨b, off, rfl, _, hc⟩ := h0 i hil
      obtain ⟨b1, off1, rfl, _, hc1⟩ := h1 i hil
      have g1 : (i : Int) < (m : Int) := by omega
      have g2 : (0 : Int) ≤ (i : Int) := by omega
      dsimp only at hc hc1
      go_upto_region 6 with fail
      go_quiet (fail)
      go_wp2_with fail
      go_roundw
      case rel => exact ⟨i + 1, _, by omega, by go_num, rfl⟩
      case measure => simp [intOf]; omega
    · go_wp2_with fail
      go_ret
      exact ⟨rfl, k, rfl⟩
end Go.Proofs.Qxb6601557a
