/-
  zzAdjBytes: what its answer says of the lengths. By an AI agent.
-/
import Derived.Test.Qxb6601557aBase
namespace Go.Proofs.Qxb6601557a
open Go.RowKit

structure AdjBytes (n : Nat) (d : Nat → Nat) (t : Int) : Prop where
  lo : 0 ≤ t
  hi : t ≤ 2097152
  ok : t ≤ 1048576 → n ≤ 131072 ∧ ∀ p, p < n → d p ≤ 131072

def AllLe (n : Nat) (d : Nat → Nat) (m : Nat) : Prop := ∀ p, p < n → d p ≤ m

set_option maxHeartbeats 400000 in
theorem adjBytes_any (S : Nat → Prop) (a : Option Addr) (n cap : Nat) (d : Nat → Nat) (A : Nat → Nat → Int) (w : World) (hbig : n ≤ 17592186044416) (hr : RdAdj S w a n d A) :
    Calls Try.prog 11 #[.slice a n cap] w fun e w' => ∃ t, e = .returned (.int .i64 t) ∧ AdjBytes n d t ∧ w' = w := by
  by_cases hn : n ≤ 131072
  · go_enter Try.func11, Try.ntmps11
    go_wp2_with fail
    go_loop [3, 4] (fun t i => ∃ (k : Nat) (m : Int), k ≤ n ∧ i = .int .i64 k ∧ t = .int .i64 m ∧ 0 ≤ m ∧ m ≤ 1048576 ∧ AllLe k d 131072)
      (fun _ i => n - (intOf i).toNat)
    case atStart => exact ⟨0, _, Nat.zero_le _, rfl, rfl, by omega, by omega, fun p hp => absurd hp (Nat.not_lt_zero p)⟩
    case round =>
      obtain ⟨k, m, hk, rfl, rfl, hm0, hm1, hall⟩ := hrel
      by_cases hlt : k < n
      · obtain ⟨b, off, ra, rc, rfl, hSb, hcell, hdm, hrow⟩ := hr k hlt
        clear hrow
        by_cases hdk : d k ≤ 131072
        · by_cases hsum : m + 8 * (d k : Int) ≤ 1048576
          · go_wp2_with fail
            go_round
            case rel =>
              refine ⟨k + 1, m + 8 * d k, by omega, by go_num, rfl, by omega, by omega, ?_⟩
              intro p hp
              by_cases h : p = k
              · rw [h]; exact hdk
              · exact hall p (by omega)
            case measure => simp [intOf]; omega
          · go_wp2_with fail
            go_ret
            exact ⟨_, rfl, ⟨by omega, by omega, by omega⟩, rfl⟩
        · go_wp2_with fail
          go_ret
          exact ⟨_, rfl, ⟨by omega, by omega, by omega⟩, rfl⟩
      · obtain rfl : k = n := by omega
        go_wp2_with fail
        go_ret
        exact ⟨_, rfl, ⟨by omega, by omega, fun _ => ⟨hn, hall⟩⟩, rfl⟩
  · go_enter Try.func11, Try.ntmps11
    go_wp2_with fail
    go_ret
    exact ⟨_, rfl, ⟨by omega, by omega, by omega⟩, rfl⟩
end Go.Proofs.Qxb6601557a
