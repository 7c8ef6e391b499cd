import Derived.Test.Qxb6601557aBase
import Derived.Test.Qxb6601557aPlain
namespace Go.Proofs.Qxb6601557a
open Go.RowKit

set_option maxHeartbeats 400000 in
theorem has_any (S : Nat → Prop) (a : Option Addr) (n cap : Nat) (f : Nat → Int) (t : Int) (w : World) (hbig : n ≤ 9223372036854775807) (hr : Rd S w a n (fun j => .int .i64 (f j))) (hinc : Inc n f) :
    Calls Try.prog 35 #[.slice a n cap, .int .i64 t] w fun e w' => e = .returned (.bool (memB n f t)) ∧ w' = w := by
  go_enter Try.func35, Try.ntmps35
  go_wp2
  go_loop [5, 6] (fun lo hi => ∃ l h : Nat, l ≤ h ∧ h ≤ n ∧ lo = .int .i64 l ∧ hi = .int .i64 h ∧ Hid (∀ j, j < l → j < n → f j < t) ∧ Hid (∀ j, h ≤ j → j < n → t ≤ f j))
    (fun lo hi => (intOf hi).toNat - (intOf lo).toNat)
  case atStart => exact ⟨0, n, Nat.zero_le _, Nat.le_refl _, rfl, rfl, fun j hj => absurd hj (Nat.not_lt_zero j), fun j h1 h2 => by omega⟩
  case round =>
    obtain ⟨l, h, hlh, hh, rfl, rfl, hlo, hhi⟩ := hrel
    by_cases hlt : l < h
    · obtain ⟨b, off, rfl, _, hcell⟩ := hr (l + (h - l) / 2) (by omega)
      go_wp2
      · have hq : f (l + (h - l) / 2) < t := by assumption
        go_round
        case rel =>
          refine ⟨l + (h - l) / 2 + 1, h, by omega, hh, by go_num, rfl, ?_, hhi⟩
          intro j h1 h2
          rcases Nat.lt_or_ge j (l + (h - l) / 2) with h3 | h3
          · have := hinc j _ h3 (by omega); omega
          · have : j = l + (h - l) / 2 := by omega
            rw [this]; exact hq
        case measure => simp only [intOf]; omega
      · have hq : t ≤ f (l + (h - l) / 2) := by assumption
        go_round
        case rel =>
          refine ⟨l, l + (h - l) / 2, by omega, by omega, rfl, by go_num, hlo, ?_⟩
          intro j h1 h2
          rcases Nat.lt_or_ge (l + (h - l) / 2) j with h3 | h3
          · have := hinc _ j h3 (by omega); omega
          · have : j = l + (h - l) / 2 := by omega
            rw [this]; exact hq
        case measure => simp only [intOf]; omega
    · have e : h = l := by omega
      subst e
      have HM : Hid (memB n f t = (decide (h < n) && (f h == t))) := memB_at hinc hlo.out hhi.out
      by_cases hl : h < n
      · obtain ⟨b, off, rfl, _, hcell⟩ := hr h hl
        go_wp2
        all_goals (go_ret; refine ⟨?_, rfl⟩; rw [HM.out]; simp [*])
      · go_wp2
        all_goals (go_ret; refine ⟨?_, rfl⟩; rw [HM.out]; simp [*])

end Go.Proofs.Qxb6601557a
