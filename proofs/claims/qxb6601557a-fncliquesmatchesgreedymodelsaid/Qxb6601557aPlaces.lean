/-
  zzPlacesPremise: what it says where it returns true. By an AI agent.
-/
import Derived.Test.Qxb6601557aWF
import Derived.Test.Qxb6601557aOwn
namespace Go.Proofs.Qxb6601557a
open Go.RowKit

/-- place k of P: in range, free, of a degree in [0, n], and none of those before it. -/
structure PlaceOk (n : Nat) (st dg P : Nat → Int) (k : Nat) : Prop where
  lo : 0 ≤ P k
  hi : P k < n
  free : st (P k).toNat = 0
  dlo : 0 ≤ dg (P k).toNat
  dhi : dg (P k).toNat ≤ n
  new : ∀ i, i < k → P i ≠ P k

structure Prem (n : Nat) (d : Nat → Nat) (A : Nat → Nat → Int) (ns : Nat) (st : Nat → Int) (nd : Nat) (dg : Nat → Int) (nc : Nat) (sc : Nat → Int) (np : Nat) (P : Nat → Int) : Prop where
  ns : ns = n
  nd : nd = n
  nc : nc = n
  wf : WF n d A
  sc0 : ∀ j, j < n → sc j = 0
  pl : ∀ k, k < np → PlaceOk n st dg P k

structure PremRes (n : Nat) (d : Nat → Nat) (A : Nat → Nat → Int) (ns : Nat) (st : Nat → Int) (nd : Nat) (dg : Nat → Int) (nc : Nat) (sc : Nat → Int) (np : Nat) (P : Nat → Int) (w : World) (e : Ending) (w' : World) : Prop where
  ret : ∃ r, e = .returned (.bool r) ∧ (r = true → Prem n d A ns st nd dg nc sc np P)
  ext : Ext (fun _ => False) w w'
  pos : e = .returned (.bool true) → w.heap.size < w'.heap.size

theorem PremRes.no {n : Nat} {d : Nat → Nat} {A : Nat → Nat → Int} {ns : Nat} {st : Nat → Int} {nd : Nat} {dg : Nat → Int} {nc : Nat} {sc : Nat → Int} {np : Nat} {P : Nat → Int} {w w' : World} (h : Ext (fun _ => False) w w') :
    PremRes n d A ns st nd dg nc sc np P w (.returned (.bool false)) w' := ⟨⟨false, rfl, fun h => by cases h⟩, h, fun h => by cases h⟩

def seenB (P : Nat → Int) (k j : Nat) : Bool := memB k P (j : Int)

theorem seenB_succ (P : Nat → Int) (k r : Nat) (h : P k = r) (j : Nat) : upd (fun i => Value.bool (seenB P k i)) r (.bool true) j = .bool (seenB P (k + 1) j) := by
  unfold upd
  by_cases e : j = r
  · subst e
    rw [if_pos rfl]
    congr 1
    symm
    exact memB_iff.2 ⟨k, by omega, h⟩
  · rw [if_neg e]
    show Value.bool (memB k P j) = Value.bool (memB (k + 1) P j)
    congr 1
    rw [Bool.eq_iff_iff, memB_iff, memB_iff]
    constructor
    · rintro ⟨i, hi, he⟩; exact ⟨i, by omega, he⟩
    · rintro ⟨i, hi, he⟩
      by_cases hik : i = k
      · subst hik; omega
      · exact ⟨i, by omega, he⟩

/-- the second loop's state. -/
structure Seeing (n : Nat) (st dg P : Nat → Int) (w wr : World) (g k : Nat) : Prop where
  pl : ∀ i, i < k → PlaceOk n st dg P i
  own : Own (fun b => b = g) 4 wr (some ⟨g, 0, none⟩) n n (fun j => .bool (seenB P k j))
  ext : Ext (fun _ => False) w wr
  new : w.heap.size ≤ g

theorem Seeing.grown {n : Nat} {st dg P : Nat → Int} {w wr : World} {g k : Nat} (h : Seeing n st dg P w wr g k) : w.heap.size < wr.heap.size := by
  have hn := h.new
  rcases h.own with ⟨e, _⟩ | ⟨g', cur, e, hS, hg, _⟩
  · cases e
  · have := (Array.getElem?_eq_some_iff.1 hg).1
    obtain rfl : g' = g := hS
    omega

theorem Seeing.step {n : Nat} {st dg P : Nat → Int} {w wr : World} {g k r : Nat} (h : Seeing n st dg P w wr g k) (hP : P k = r) (hr : r < n) :
    wr.cell? ⟨g, r, none⟩ = some (.bool (seenB P k r)) ∧ wr.frozen? ⟨g, r, none⟩ = false ∧
      (seenB P k r = false → st r = 0 → 0 ≤ dg r → dg r ≤ n → Seeing n st dg P w (wr.setCell ⟨g, r, none⟩ (.bool true)) g (k + 1)) := by
  obtain ⟨g', _, hS, hlt, hce, hf, hst⟩ := h.own.at r hr
  obtain rfl : g' = g := hS
  refine ⟨hce, hf, fun h1 h2 h3 h4 => ⟨?_, (hst _).congr (fun j _ => seenB_succ P k r hP j), h.ext.setCell (fun hlt => absurd hlt (by have := h.new; simp; omega)) _, h.new⟩⟩
  intro i hi
  by_cases e : i = k
  · subst e
    refine ⟨by omega, by omega, by rw [hP]; simpa using h2, by rw [hP]; simpa using h3, by rw [hP]; simpa using h4, ?_⟩
    intro j hj hjP
    have := memB_false_iff.1 h1 j hj
    omega
  · exact h.pl i (by omega)

set_option maxHeartbeats 1000000 in
theorem places_any (S : Nat → Prop) (a a1 a2 a3 a4 : Option Addr) (n c ns c1 nd c2 nc c3 np c4 : Nat) (d : Nat → Nat) (A : Nat → Nat → Int) (st dg sc P : Nat → Int) (w : World)
    (hbig : n ≤ 1048576) (hnp : np ≤ 17592186044416) (h1 : ns ≤ 140737488355328) (h2 : nd ≤ 17592186044416) (h3 : nc ≤ 17592186044416) (hr : RdAdj S w a n d A) (hr1 : Rd S w a1 ns (fun j => .int .i8 (st j))) (hr2 : Rd S w a2 nd (fun j => .int .i64 (dg j)))
    (hr3 : Rd S w a3 nc (fun j => .int .i64 (sc j))) (hr4 : Rd S w a4 np (fun j => .int .i64 (P j))) :
    Calls Try.prog 29 #[.slice a n c, .slice a1 ns c1, .slice a2 nd c2, .slice a3 nc c3, .slice a4 np c4] w (PremRes n d A ns st nd dg nc sc np P w) := by
  by_cases hl : ns = n ∧ nd = n ∧ nc = n
  · obtain ⟨rfl, rfl, rfl⟩ := hl
    go_enter Try.func29, Try.ntmps29
    go_wp2_with fail
    refine (wf_any S a nc c d A _ (by omega) hr).mono ?_
    rintro e w' ⟨⟨r, rfl, hwf⟩, hw'⟩
    subst w'
    have HW : Hid (r = true ↔ WF nc d A) := hwf
    clear hwf
    cases r with
    | false =>
      go_wp2_with fail
      go_ret
      exact PremRes.no (Ext.refl _ _)
    | true =>
      have hW : WF nc d A := HW.out.1 rfl
      clear HW
      go_wp2_with fail
      go_loop [12] (fun i => ∃ k : Nat, k ≤ nc ∧ i = .int .i64 k ∧ Hid (∀ j, j < k → sc j = 0)) (fun i => nc - (intOf i).toNat)
      case atStart => exact ⟨0, Nat.zero_le _, rfl, fun p hp => absurd hp (Nat.not_lt_zero p)⟩
      case round =>
        obtain ⟨k, hk, rfl, hz⟩ := hrel
        by_cases hlt : k < nc
        · obtain ⟨b, off, rfl, _, hc⟩ := hr3 k hlt
          go_wp2_with fail
          · go_ret
            exact PremRes.no (Ext.refl _ _)
          · have hs : (sc k != 0) = false := by assumption
            go_round
            case rel =>
              refine ⟨k + 1, by omega, by go_num, fun j hj => ?_⟩
              by_cases e : j = k
              · subst e; simpa using hs
              · exact hz.out j (by omega)
            case measure => simp [intOf]; omega
        · obtain rfl : k = nc := by omega
          go_wp2_with (at_make; refine wpList_mk _ rfl _ _ 26 rfl 4 (.bool false) 1 Try.underlying26 info4 rfl _ _ k rfl rfl rfl rfl (by omega) (by omega) ?_)
          intro w1 hown hext hsz
          have HS : Seeing k st dg P w w1 w.heap.size 0 := ⟨fun i hi => absurd hi (Nat.not_lt_zero i), hown.congr (fun j _ => by simp [seenB, memB]), hext, Nat.le_refl _⟩
          clear hown hext hsz
          go_wp2_with fail
          go_loopw [51] (fun i wr => ∃ m : Nat, m ≤ np ∧ i = .int .i64 m ∧ Seeing k st dg P w wr w.heap.size m) (fun i _ => np - (intOf i).toNat)
          case atStart => exact ⟨0, Nat.zero_le _, rfl, HS⟩
          case round =>
            clear HS
            obtain ⟨m, hm, rfl, hs⟩ := hrel
            by_cases hml : m < np
            · obtain ⟨b, off, rfl, _, hc⟩ := (hr4.ext hs.ext (fun _ _ h => h)) m hml
              by_cases hp0 : P m < 0
              · go_wp2_with fail
                go_ret
                exact PremRes.no hs.ext
              · by_cases hpn : P m < k
                · obtain ⟨r, hPr⟩ := Int.eq_ofNat_of_zero_le (show 0 ≤ P m by omega)
                  simp only [hPr] at hc
                  have hrk : r < k := by omega
                  obtain ⟨hcs, hfs, hstep⟩ := hs.step hPr hrk
                  obtain ⟨b1, off1, rfl, _, hc1⟩ := (hr1.ext hs.ext (fun _ _ h => h)) r hrk
                  obtain ⟨b2, off2, rfl, _, hc2⟩ := (hr2.ext hs.ext (fun _ _ h => h)) r hrk
                  clear hPr hp0 hpn
                  have HStep : Hid (seenB P m r = false → st r = 0 → 0 ≤ dg r → dg r ≤ k → Seeing k st dg P w (wr.setCell ⟨w.heap.size, r, none⟩ (.bool true)) w.heap.size (m + 1)) := hstep
                  clear hstep
                  generalize seenB P m r = sb at *
                  cases sb
                  · go_wp2_with fail
                    · go_ret
                      exact PremRes.no hs.ext
                    · have g1 : st r = 0 := by assumption
                      have g2 : ((0 ≤ (r : Int) ∧ ¬ k ≤ r) ∧ 0 ≤ dg r) ∧ dg r ≤ k := by assumption
                      go_roundw
                      case rel => exact ⟨m + 1, by omega, by go_num, HStep.out rfl g1 g2.1.2 g2.2⟩
                      case measure => simp [intOf]; omega
                    · go_ret
                      exact PremRes.no hs.ext
                    · go_ret
                      exact PremRes.no hs.ext
                  · go_wp2_with fail
                    go_ret
                    exact PremRes.no hs.ext
                · go_wp2_with fail
                  go_ret
                  exact PremRes.no hs.ext
            · obtain rfl : m = np := by omega
              go_wp2_with fail
              go_ret
              exact ⟨⟨true, rfl, fun _ => ⟨rfl, rfl, rfl, hW, hz.out, hs.pl⟩⟩, hs.ext, fun _ => hs.grown⟩
  · by_cases e1 : ns = n
    · subst e1
      by_cases e2 : nd = ns
      · subst e2
        have e3 : ((nc : Int) != nd) = true := by rw [bne_iff_ne]; omega
        go_enter Try.func29, Try.ntmps29
        go_wp2_with fail
        go_ret
        exact PremRes.no (Ext.refl _ _)
      · have e3 : ((nd : Int) != ns) = true := by rw [bne_iff_ne]; omega
        go_enter Try.func29, Try.ntmps29
        go_wp2_with fail
        go_ret
        exact PremRes.no (Ext.refl _ _)
    · have e3 : ((ns : Int) != n) = true := by rw [bne_iff_ne]; omega
      go_enter Try.func29, Try.ntmps29
      go_wp2_with fail
      go_ret
      exact PremRes.no (Ext.refl _ _)
end Go.Proofs.Qxb6601557a
