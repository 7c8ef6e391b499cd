/-
  zzCopyInts, zzCopyInt8s, zzCopyBools: a copy in a new block (nil stays nil). By an AI agent.
-/
import Derived.Test.Qxb6601557aOwn
namespace Go.Proofs.Qxb6601557a
open Go.RowKit

structure Copied (e : TypeId) (w w' : World) (a a' : Option Addr) (n : Nat) (f : Nat → Value) : Prop where
  own : Own (fun k => k = w.heap.size) e w' a' n n f
  ext : Ext (fun _ => False) w w'
  size : w'.heap.size ≤ w.heap.size + 1
  nil : a = none ↔ a' = none

/-- the copy's loop: the first k elements have gone over. -/
structure Copying (e : TypeId) (w wr : World) (n k : Nat) (f : Nat → Value) (z : Value) : Prop where
  own : Own (fun k => k = w.heap.size) e wr (some ⟨w.heap.size, 0, none⟩) n n (fun j => if j < k then f j else z)
  ext : Ext (fun _ => False) w wr
  size : wr.heap.size = w.heap.size + 1

theorem Copying.start {e : TypeId} {w wr : World} {n : Nat} {f : Nat → Value} {z : Value} (h1 : Own (fun k => k = w.heap.size) e wr (some ⟨w.heap.size, 0, none⟩) n n (fun _ => z)) (h2 : Ext (fun _ => False) w wr) (h3 : wr.heap.size = w.heap.size + 1) : Copying e w wr n 0 f z :=
  ⟨h1.congr (fun j _ => by simp), h2, h3⟩

theorem Copying.step {e : TypeId} {w wr : World} {n k : Nat} {f : Nat → Value} {z : Value} (h : Copying e w wr n k f z) (hk : k < n) :
    wr.frozen? ⟨w.heap.size, k, none⟩ = false ∧ wr.cell? ⟨w.heap.size, k, none⟩ = some z ∧ Copying e w (wr.setCell ⟨w.heap.size, k, none⟩ (f k)) n (k + 1) f z := by
  obtain ⟨g, hg, hS, hlt, hc, hf, hst⟩ := h.own.at k hk
  obtain rfl : g = w.heap.size := hS
  refine ⟨hf, by simpa using hc, (hst _).congr ?_, h.ext.setCell (fun hlt => absurd hlt (Nat.lt_irrefl _)) _, by simp [World.setCell, h.size]⟩
  intro j hj
  unfold upd
  by_cases hjk : j = k
  · subst hjk; simp
  · by_cases h1 : j < k
    · simp [hjk, h1, show j < k + 1 by omega]
    · simp [hjk, h1, show ¬ j < k + 1 by omega]

theorem Copying.done {e : TypeId} {w wr : World} {n : Nat} {f : Nat → Value} {z : Value} {ad : Addr} (h : Copying e w wr n n f z) : Copied e w wr (some ad) (some ⟨w.heap.size, 0, none⟩) n f :=
  ⟨h.own.congr (fun j hj => by simp [hj]), h.ext, by rw [h.size]; exact Nat.le_refl _, by simp⟩

theorem Copied.none {e : TypeId} {w : World} {f : Nat → Value} : Copied e w w none none 0 f := ⟨Own.nil, Ext.refl _ _, by simp, Iff.rfl⟩

set_option maxHeartbeats 400000 in
theorem copyInts_any (S : Nat → Prop) (a : Option Addr) (n cap : Nat) (f : Nat → Int) (w : World) (hbig : n ≤ 17592186044416) (hr : Rd S w a n (fun j => .int .i64 (f j))) (hnil : a = none → n = 0) :
    Calls Try.prog 15 #[.slice a n cap] w fun e w' => ∃ a', e = .returned (.slice a' n n) ∧ Copied 3 w w' a a' n (fun j => .int .i64 (f j)) := by
  have hnl := fun (w : World) (a : Option Addr) (n c : Nat) => Lib.run_eql_slice_nil (P := Try.prog) w 24 3 a n c 0 0 Try.underlying24
  cases a with
  | none =>
    obtain rfl : n = 0 := hnil rfl
    go_enter Try.func15, Try.ntmps15
    go_wp2
    go_ret
    exact ⟨none, rfl, Copied.none⟩
  | some ad =>
    go_enter Try.func15, Try.ntmps15
    go_wp2_with (at_make; refine wpList_mk _ rfl _ _ 24 rfl 3 (.int .i64 0) 8 Try.underlying24 info3 rfl _ _ n rfl rfl rfl rfl (by omega) (by omega) ?_)
    intro w1 hown hext hsz
    have HC : Copying 3 w w1 n 0 (fun j => .int .i64 (f j)) (.int .i64 0) := Copying.start hown hext hsz
    clear hown hext hsz
    go_wp2
    go_loopw [4] (fun i wr => ∃ k : Nat, k ≤ n ∧ i = .int .i64 k ∧ Copying 3 w wr n k (fun j => .int .i64 (f j)) (.int .i64 0))
      (fun i _ => n - (intOf i).toNat)
    case atStart => exact ⟨0, Nat.zero_le _, rfl, HC⟩
    case round =>
      clear HC
      obtain ⟨k, hk, rfl, hcp⟩ := hrel
      by_cases hlt : k < n
      · obtain ⟨b, off, hab, _, hcell⟩ := (hr.ext hcp.ext (fun _ _ h => h)) k hlt
        obtain rfl : ad = ⟨b, off, none⟩ := by simpa using hab
        obtain ⟨hf, hc, hst⟩ := hcp.step hlt
        go_wp2
        go_roundw
        case rel => exact ⟨k + 1, by omega, by go_num, hst⟩
        case measure => simp [intOf]; omega
      · obtain rfl : k = n := by omega
        go_wp2
        go_ret
        exact ⟨_, rfl, hcp.done⟩
set_option maxHeartbeats 400000 in
theorem copyInt8s_any (S : Nat → Prop) (a : Option Addr) (n cap : Nat) (f : Nat → Int) (w : World) (hbig : n ≤ 17592186044416) (hr : Rd S w a n (fun j => .int .i8 (f j))) (hnil : a = none → n = 0) :
    Calls Try.prog 14 #[.slice a n cap] w fun e w' => ∃ a', e = .returned (.slice a' n n) ∧ Copied 39 w w' a a' n (fun j => .int .i8 (f j)) := by
  have hnl := fun (w : World) (a : Option Addr) (n c : Nat) => Lib.run_eql_slice_nil (P := Try.prog) w 23 39 a n c 0 0 Try.underlying23
  cases a with
  | none =>
    obtain rfl : n = 0 := hnil rfl
    go_enter Try.func14, Try.ntmps14
    go_wp2
    go_ret
    exact ⟨none, rfl, Copied.none⟩
  | some ad =>
    go_enter Try.func14, Try.ntmps14
    go_wp2_with (at_make; refine wpList_mk _ rfl _ _ 23 rfl 39 (.int .i8 0) 1 Try.underlying23 info39 rfl _ _ n rfl rfl rfl rfl (by omega) (by omega) ?_)
    intro w1 hown hext hsz
    have HC : Copying 39 w w1 n 0 (fun j => .int .i8 (f j)) (.int .i8 0) := Copying.start hown hext hsz
    clear hown hext hsz
    go_wp2
    go_loopw [4] (fun i wr => ∃ k : Nat, k ≤ n ∧ i = .int .i64 k ∧ Copying 39 w wr n k (fun j => .int .i8 (f j)) (.int .i8 0))
      (fun i _ => n - (intOf i).toNat)
    case atStart => exact ⟨0, Nat.zero_le _, rfl, HC⟩
    case round =>
      clear HC
      obtain ⟨k, hk, rfl, hcp⟩ := hrel
      by_cases hlt : k < n
      · obtain ⟨b, off, hab, _, hcell⟩ := (hr.ext hcp.ext (fun _ _ h => h)) k hlt
        obtain rfl : ad = ⟨b, off, none⟩ := by simpa using hab
        obtain ⟨hf, hc, hst⟩ := hcp.step hlt
        go_wp2
        go_roundw
        case rel => exact ⟨k + 1, by omega, by go_num, hst⟩
        case measure => simp [intOf]; omega
      · obtain rfl : k = n := by omega
        go_wp2
        go_ret
        exact ⟨_, rfl, hcp.done⟩
set_option maxHeartbeats 400000 in
theorem copyBools_any (S : Nat → Prop) (a : Option Addr) (n cap : Nat) (f : Nat → Bool) (w : World) (hbig : n ≤ 17592186044416) (hr : Rd S w a n (fun j => .bool (f j))) (hnil : a = none → n = 0) :
    Calls Try.prog 17 #[.slice a n cap] w fun e w' => ∃ a', e = .returned (.slice a' n n) ∧ Copied 4 w w' a a' n (fun j => .bool (f j)) := by
  have hnl := fun (w : World) (a : Option Addr) (n c : Nat) => Lib.run_eql_slice_nil (P := Try.prog) w 26 4 a n c 0 0 Try.underlying26
  cases a with
  | none =>
    obtain rfl : n = 0 := hnil rfl
    go_enter Try.func17, Try.ntmps17
    go_wp2
    go_ret
    exact ⟨none, rfl, Copied.none⟩
  | some ad =>
    go_enter Try.func17, Try.ntmps17
    go_wp2_with (at_make; refine wpList_mk _ rfl _ _ 26 rfl 4 (.bool false) 1 Try.underlying26 info4 rfl _ _ n rfl rfl rfl rfl (by omega) (by omega) ?_)
    intro w1 hown hext hsz
    have HC : Copying 4 w w1 n 0 (fun j => .bool (f j)) (.bool false) := Copying.start hown hext hsz
    clear hown hext hsz
    go_wp2
    go_loopw [4] (fun i wr => ∃ k : Nat, k ≤ n ∧ i = .int .i64 k ∧ Copying 4 w wr n k (fun j => .bool (f j)) (.bool false))
      (fun i _ => n - (intOf i).toNat)
    case atStart => exact ⟨0, Nat.zero_le _, rfl, HC⟩
    case round =>
      clear HC
      obtain ⟨k, hk, rfl, hcp⟩ := hrel
      by_cases hlt : k < n
      · obtain ⟨b, off, hab, _, hcell⟩ := (hr.ext hcp.ext (fun _ _ h => h)) k hlt
        obtain rfl : ad = ⟨b, off, none⟩ := by simpa using hab
        obtain ⟨hf, hc, hst⟩ := hcp.step hlt
        go_wp2
        go_roundw
        case rel => exact ⟨k + 1, by omega, by go_num, hst⟩
        case measure => simp [intOf]; omega
      · obtain rfl : k = n := by omega
        go_wp2
        go_ret
        exact ⟨_, rfl, hcp.done⟩
end Go.Proofs.Qxb6601557a
