/-
  zzWellFormed: it returns true just where the graph is well formed. By an AI agent.
-/
import Derived.Test.Qxb6601557aHas
namespace Go.Proofs.Qxb6601557a
open Go.RowKit

/-- the first m numbers of a row of place p are in range and increase. -/
def RowOk (n : Nat) (A : Nat → Nat → Int) (p m : Nat) : Prop := (∀ i, i < m → 0 ≤ A p i ∧ A p i < n ∧ A p i ≠ p) ∧ Inc m (A p)

def SymOk (d : Nat → Nat) (A : Nat → Nat → Int) (p m : Nat) : Prop := ∀ i, i < m → memB (d (A p i).toNat) (A (A p i).toNat) p = true

structure WF (n : Nat) (d : Nat → Nat) (A : Nat → Nat → Int) : Prop where
  row : ∀ p, p < n → RowOk n A p (d p)
  sym : ∀ p, p < n → SymOk d A p (d p)

structure WFRes (n : Nat) (d : Nat → Nat) (A : Nat → Nat → Int) (w : World) (e : Ending) (w' : World) : Prop where
  ret : ∃ r, e = .returned (.bool r) ∧ (r = true ↔ WF n d A)
  same : w' = w

theorem WFRes.no {n : Nat} {d : Nat → Nat} {A : Nat → Nat → Int} {w : World} (h : ¬ WF n d A) : WFRes n d A w (.returned (.bool false)) w :=
  ⟨⟨false, rfl, by simp [h]⟩, rfl⟩

theorem RowOk.zero (n : Nat) (A : Nat → Nat → Int) (p : Nat) : RowOk n A p 0 := ⟨fun i hi => absurd hi (Nat.not_lt_zero i), fun _ j _ hj => absurd hj (Nat.not_lt_zero j)⟩

theorem RowOk.succ {n : Nat} {A : Nat → Nat → Int} {p m : Nat} (h : RowOk n A p m) (h1 : 0 ≤ A p m ∧ A p m < n ∧ A p m ≠ p) (h2 : 0 < m → A p (m - 1) < A p m) : RowOk n A p (m + 1) := by
  refine ⟨fun i hi => ?_, fun i j hij hj => ?_⟩
  · by_cases e : i = m
    · subst e; exact h1
    · exact h.1 i (by omega)
  · by_cases e : j = m
    · subst e
      have h3 := h2 (by omega)
      by_cases e' : i = j - 1
      · subst e'; exact h3
      · have := h.2 i (j - 1) (by omega) (by omega); omega
    · exact h.2 i j hij (by omega)

theorem RowOk.bad1 {n : Nat} {d : Nat → Nat} {A : Nat → Nat → Int} {p m : Nat} (hp : p < n) (hm : m < d p) (h : ¬ (0 ≤ A p m ∧ A p m < n ∧ A p m ≠ p)) : ¬ WF n d A := fun w => h ((w.row p hp).1 m hm)

theorem RowOk.bad2 {n : Nat} {d : Nat → Nat} {A : Nat → Nat → Int} {p m : Nat} (hp : p < n) (hm : m < d p) (h0 : 0 < m) (h : ¬ A p (m - 1) < A p m) : ¬ WF n d A := fun w => h ((w.row p hp).2 (m - 1) m (by omega) hm)

def RowsOk (n : Nat) (d : Nat → Nat) (A : Nat → Nat → Int) (k : Nat) : Prop := ∀ p, p < k → RowOk n A p (d p)
def SymsOk (d : Nat → Nat) (A : Nat → Nat → Int) (k : Nat) : Prop := ∀ p, p < k → SymOk d A p (d p)

theorem RowsOk.succ {n : Nat} {d : Nat → Nat} {A : Nat → Nat → Int} {k : Nat} (h : RowsOk n d A k) (h1 : RowOk n A k (d k)) : RowsOk n d A (k + 1) := by
  intro p hp
  by_cases e : p = k
  · subst e; exact h1
  · exact h p (by omega)

theorem SymsOk.succ {d : Nat → Nat} {A : Nat → Nat → Int} {k : Nat} (h : SymsOk d A k) (h1 : SymOk d A k (d k)) : SymsOk d A (k + 1) := by
  intro p hp
  by_cases e : p = k
  · subst e; exact h1
  · exact h p (by omega)

theorem SymOk.succ {d : Nat → Nat} {A : Nat → Nat → Int} {p m : Nat} (h : SymOk d A p m) (h1 : memB (d (A p m).toNat) (A (A p m).toNat) p = true) : SymOk d A p (m + 1) := by
  intro i hi
  by_cases e : i = m
  · subst e; exact h1
  · exact h i (by omega)

set_option maxHeartbeats 1000000 in
theorem wf_any (S : Nat → Prop) (a : Option Addr) (n cap : Nat) (d : Nat → Nat) (A : Nat → Nat → Int) (w : World) (hbig : n ≤ 17592186044416) (hr : RdAdj S w a n d A) :
    Calls Try.prog 26 #[.slice a n cap] w (WFRes n d A w) := by
  go_enter Try.func26, Try.ntmps26
  go_wp2_with fail
  go_loop [4] (fun i => ∃ k : Nat, k ≤ n ∧ i = .int .i64 k ∧ RowsOk n d A k) (fun i => n - (intOf i).toNat)
  case atStart => exact ⟨0, Nat.zero_le _, rfl, fun p hp => absurd hp (Nat.not_lt_zero p)⟩
  case round =>
    obtain ⟨k, hk, rfl, hrows⟩ := hrel
    by_cases hlt : k < n
    · obtain ⟨b, off, ra, rc, rfl, hSb, hcell, hdm, hrow⟩ := hr k hlt
      go_wp2_with fail
      go_loop [6] (fun i => ∃ m : Nat, m ≤ d k ∧ i = .int .i64 m ∧ RowOk n A k m) (fun i => d k - (intOf i).toNat)
      case atStart => exact ⟨0, Nat.zero_le _, rfl, RowOk.zero _ _ _⟩
      case round =>
        obtain ⟨m, hm, rfl, hok⟩ := hrel
        by_cases hml : m < d k
        · obtain ⟨b2, off2, rfl, _, hc2⟩ := hrow m hml
          by_cases hm0 : 0 < m
          · obtain ⟨_, _, e3, _, hc3⟩ := hrow (m - 1) (by omega)
            obtain ⟨rfl, rfl⟩ : b2 = _ ∧ off2 = _ := by simpa using e3
            clear e3
            go_wp2_with fail
            · have h1 : (A k m < 0 ∨ ↑n ≤ A k m) ∨ (A k m == ↑k) = true := by assumption
              go_ret
              exact WFRes.no (RowOk.bad1 hlt hml (by simp only [beq_iff_eq] at h1; omega))
            · have h1 : A k m ≤ A k (m - 1) := by assumption
              go_ret
              exact WFRes.no (RowOk.bad2 hlt hml hm0 (by omega))
            · have h1 : (0 ≤ A k m ∧ A k m < ↑n) ∧ (A k m == ↑k) = false := by assumption
              have h2 : A k (m - 1) < A k m := by assumption
              go_round
              case rel => exact ⟨m + 1, by omega, by go_num, hok.succ ⟨h1.1.1, h1.1.2, by simpa using h1.2⟩ (fun _ => h2)⟩
              case measure => simp [intOf]; omega
            · have h1 : ↑n ≤ A k m := by assumption
              go_ret
              exact WFRes.no (RowOk.bad1 hlt hml (by omega))
            · have h1 : A k m < 0 := by assumption
              go_ret
              exact WFRes.no (RowOk.bad1 hlt hml (by omega))
          · go_wp2_with fail
            · have h1 : (A k m < 0 ∨ ↑n ≤ A k m) ∨ (A k m == ↑k) = true := by assumption
              go_ret
              exact WFRes.no (RowOk.bad1 hlt hml (by simp only [beq_iff_eq] at h1; omega))
            · have h1 : (0 ≤ A k m ∧ A k m < ↑n) ∧ (A k m == ↑k) = false := by assumption
              go_round
              case rel => exact ⟨m + 1, by omega, by go_num, hok.succ ⟨h1.1.1, h1.1.2, by simpa using h1.2⟩ (fun h => by omega)⟩
              case measure => simp [intOf]; omega
            · have h1 : ↑n ≤ A k m := by assumption
              go_ret
              exact WFRes.no (RowOk.bad1 hlt hml (by omega))
            · have h1 : A k m < 0 := by assumption
              go_ret
              exact WFRes.no (RowOk.bad1 hlt hml (by omega))
        · obtain rfl : m = d k := by omega
          go_wp2_with fail
          go_round
          case rel => exact ⟨k + 1, by omega, by go_num, hrows.succ hok⟩
          case measure => simp [intOf]; omega
    · obtain rfl : k = n := by omega
      go_wp2_with fail
      go_loop [8] (fun i => ∃ q : Nat, q ≤ k ∧ i = .int .i64 q ∧ SymsOk d A q) (fun i => k - (intOf i).toNat)
      case atStart => exact ⟨0, Nat.zero_le _, rfl, fun p hp => absurd hp (Nat.not_lt_zero p)⟩
      case round =>
        obtain ⟨q, hq, rfl, hsyms⟩ := hrel
        by_cases hqk : q < k
        · obtain ⟨b, off, ra, rc, rfl, hSb, hcell, hdm, hrow⟩ := hr q hqk
          go_wp2_with fail
          go_loop [65] (fun i => ∃ m : Nat, m ≤ d q ∧ i = .int .i64 m ∧ SymOk d A q m) (fun i => d q - (intOf i).toNat)
          case atStart => exact ⟨0, Nat.zero_le _, rfl, fun p hp => absurd hp (Nat.not_lt_zero p)⟩
          case round =>
            obtain ⟨m, hm, rfl, hsym⟩ := hrel
            by_cases hml : m < d q
            · obtain ⟨b2, off2, rfl, _, hc2⟩ := hrow m hml
              obtain ⟨hq1, hq2, _⟩ := (hrows q hqk).1 m hml
              obtain ⟨r, hAr⟩ := Int.eq_ofNat_of_zero_le hq1
              simp only [hAr] at hc2 hq2
              have hrk : r < k := by omega
              obtain ⟨_, _, rb, rcc, e3, _, hcr, hdr, hrr⟩ := hr r hrk
              obtain ⟨rfl, rfl⟩ : b = _ ∧ off = _ := by simpa using e3
              clear e3
              have HA : Hid (A q m = r) := hAr
              clear hAr
              go_wp2_with fail
              refine (has_any S rb (d r) rcc (A r) (q : Int) _ hdr hrr (hrows r hrk).2).mono ?_
              rintro e w' ⟨rfl, rfl⟩
              cases hb : memB (d r) (A r) q with
              | true =>
                go_wp2_with fail
                go_round
                case rel => exact ⟨m + 1, by omega, by go_num, hsym.succ (by rw [HA.out]; simpa using hb)⟩
                case measure => simp [intOf]; omega
              | false =>
                go_wp2_with fail
                go_ret
                refine WFRes.no (fun hw => ?_)
                have := hw.sym q hqk m hml
                rw [HA.out] at this
                simp [hb] at this
            · obtain rfl : m = d q := by omega
              go_wp2_with fail
              go_round
              case rel => exact ⟨q + 1, by omega, by go_num, hsyms.succ hsym⟩
              case measure => simp [intOf]; omega
        · obtain rfl : q = k := by omega
          go_wp2_with fail
          go_ret
          exact ⟨⟨true, rfl, by simp only [true_iff]; exact ⟨hrows, hsyms⟩⟩, rfl⟩
end Go.Proofs.Qxb6601557a
