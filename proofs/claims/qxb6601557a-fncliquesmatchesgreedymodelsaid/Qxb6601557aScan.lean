/-
  zzTriangleScan and zzTop. By an AI agent.
-/
import Derived.Test.Qxb6601557aTriA
namespace Go.Proofs.Qxb6601557a
set_option linter.unusedVariables false
open Go.RowKit

theorem anyB_succ (n : Nat) (p : Nat → Bool) : anyB (n + 1) p = (anyB n p || p n) := by
  unfold anyB; rw [List.range_succ]; simp

theorem triTo_le {d : Nat → Nat} {N : Nat → Nat → Nat} {ok : Nat → Bool} {p : Nat} (D : Nat) : ∀ m, (∀ i, i < m → d (N p i) ≤ D) → (triTo d N ok p m).2 ≤ m * D
  | 0, _ => by simp [triTo]
  | m + 1, h => by
    have ih := triTo_le (ok := ok) D m (fun i hi => h i (by omega))
    have h1 := h m (by omega)
    rw [Nat.succ_mul]
    cases hf : (triTo d N ok p m).1 with
    | true => rw [triTo_found_le d N ok hf (Nat.le_succ m)]; omega
    | false =>
      cases hm : mkd d N ok p (N p m) with
      | true => rw [triTo_look d N ok hf hm]; show _ + _ ≤ _; omega
      | false => rw [triTo_skip d N ok hf hm]; show _ ≤ _; omega

/-- the marks while they are set, and while they are put back. -/
def mkM (N : Nat → Nat → Nat) (ok : Nat → Bool) (p i q : Nat) : Bool := memN i (N p) q && ok q
def mkZ (N : Nat → Nat → Nat) (f : Nat → Bool) (p i q : Nat) : Bool := !memN i (N p) q && f q

theorem mkM_zero (N : Nat → Nat → Nat) (ok : Nat → Bool) (p : Nat) : mkM N ok p 0 = fun _ => false := by funext q; simp [mkM, memN]
theorem mkM_hit {N : Nat → Nat → Nat} {ok : Nat → Bool} {p i : Nat} (h : ok (N p i) = true) : mkM N ok p (i + 1) = upd1 (mkM N ok p i) (N p i) true := by
  funext q
  unfold mkM
  rw [memN_succ']
  by_cases e : q = N p i
  · subst e; rw [upd1_same]; simp [h]
  · rw [upd1_other _ _ _ _ e]
    have : (N p i == q) = false := by rw [beq_eq_false_iff_ne]; exact fun h => e h.symm
    rw [this, Bool.or_false]
theorem mkM_skip {N : Nat → Nat → Nat} {ok : Nat → Bool} {p i : Nat} (h : ok (N p i) = false) : mkM N ok p (i + 1) = mkM N ok p i := by
  funext q
  unfold mkM
  rw [memN_succ']
  by_cases e : q = N p i
  · subst e; simp [h]
  · have : (N p i == q) = false := by rw [beq_eq_false_iff_ne]; exact fun h => e h.symm
    rw [this, Bool.or_false]
theorem mkM_all (d : Nat → Nat) (N : Nat → Nat → Nat) (ok : Nat → Bool) (p q : Nat) : mkM N ok p (d p) q = mkd d N ok p q := rfl
theorem mkZ_zero (N : Nat → Nat → Nat) (f : Nat → Bool) (p : Nat) : mkZ N f p 0 = f := by funext q; simp [mkZ, memN]
theorem mkZ_succ (N : Nat → Nat → Nat) (f : Nat → Bool) (p i : Nat) : mkZ N f p (i + 1) = upd1 (mkZ N f p i) (N p i) false := by
  funext q
  unfold mkZ
  rw [memN_succ']
  by_cases e : q = N p i
  · subst e; rw [upd1_same]; simp
  · rw [upd1_other _ _ _ _ e]
    have : (N p i == q) = false := by rw [beq_eq_false_iff_ne]; exact fun h => e h.symm
    rw [this, Bool.or_false]
theorem mkZ_end (d : Nat → Nat) (N : Nat → Nat → Nat) (ok : Nat → Bool) (p : Nat) : mkZ N (mkM N ok p (d p)) p (d p) = fun _ => false := by
  funext q
  unfold mkZ mkM
  cases h : memN (d p) (N p) q <;> simp

/-- the marks in block g; nothing else has turned. -/
structure ScS (w wr : World) (g n cm : Nat) (f : Nat → Bool) : Prop where
  ext : Ext (fun k => k = g) w wr
  own : Own (fun k => k = g) 4 wr (some ⟨g, 0, none⟩) n cm (fun j => .bool (f j))

theorem ScS.at {w wr : World} {g n cm : Nat} {f : Nat → Bool} (h : ScS w wr g n cm f) (j : Nat) (hj : j < n) : wr.cell? ⟨g, j, none⟩ = some (.bool (f j)) ∧ wr.frozen? ⟨g, j, none⟩ = false ∧
    ∀ v, ScS w (wr.setCell ⟨g, j, none⟩ (.bool v)) g n cm (upd1 f j v) := by
  obtain ⟨g', _, hS, _, hc, hf, hst⟩ := h.own.at j hj
  obtain rfl : g' = g := hS
  exact ⟨hc, hf, fun v => ⟨h.ext.setCell (fun _ => rfl) _, (hst (.bool v)).congr (fun i _ => upd_map (fun b : Bool => Value.bool b) f j v i)⟩⟩

structure ScanIn (w : World) (g : Nat) (S : Nat → Prop) (n : Nat) (d : Nat → Nat) (N : Nat → Nat → Nat) (st : Nat → Int) (pl : Nat → Bool) (ok : Nat → Bool) (a0 a1 a2 : Option Addr) : Prop where
  adj : RdAdj S w a0 n d (fun p i => (N p i : Int))
  sta : Rd S w a1 n (fun j => .int .i8 (st j))
  plr : Rd S w a2 n (fun j => .bool (pl j))
  out : ∀ k, S k → k ≠ g
  gr : Gr n d N
  okq : ∀ q, ok q = (decide (st q = 0) && !pl q)

set_option maxHeartbeats 4000000 in
set_option maxRecDepth 100000 in
theorem scan_any (w : World) (g : Nat) (S : Nat → Prop) (n : Nat) (d : Nat → Nat) (N : Nat → Nat → Nat) (st : Nat → Int) (pl ok : Nat → Bool) (a0 a1 a2 : Option Addr) (c0 c1 c2 cm p : Nat)
    (h : ScanIn w g S n d N st pl ok a0 a1 a2) (hown : Own (fun k => k = g) 4 w (some ⟨g, 0, none⟩) n cm (fun _ => .bool false)) (hp : p < n) (hn : n ≤ 131072) :
    Calls Try.prog 38 #[.slice a0 n c0, .slice a1 n c1, .slice a2 n c2, .int .i64 (p : Int), .slice (some ⟨g, 0, none⟩) n cm] w fun e w' =>
      e = .returned (.tuple #[.bool (triB d N ok p), .int .i64 (triC d N ok p : Int)]) ∧ ScS w w' g n cm (fun _ => false) := by
  have hadj0 := h.adj
  have hsta0 := h.sta
  have hpl0 := h.plr
  have hgr := h.gr
  have HOut : Hid (∀ k, S k → k ≠ g) := h.out
  have HOk : Hid (∀ q, ok q = (decide (st q = 0) && !pl q)) := h.okq
  have HS0 : ScS w w g n cm (mkM N ok p 0) := ⟨Ext.refl _ _, by rw [mkM_zero]; exact hown⟩
  clear h hown
  obtain ⟨b, off, ra, rc, rfl, hSb, hcell1, hdm, hrow1⟩ := hadj0 p hp
  have hbg := HOut.out b hSb
  have hdp := hgr.dle p hp
  have gp1 : (p : Int) < (n : Int) := by omega
  have gp0 : (0 : Int) ≤ (p : Int) := by omega
  go_enter Try.func38, Try.ntmps38
  go_wp2_with fail
  go_loopw [27] (fun s27 wr => ∃ i : Nat, i ≤ d p ∧ s27 = .int .i64 i ∧ ScS w wr g n cm (mkM N ok p i)) (fun i _ => d p - (intOf i).toNat)
  case atStart => exact ⟨0, Nat.zero_le _, rfl, HS0⟩
  case round =>
    clear HS0
    obtain ⟨i, hi, rfl, hS2⟩ := hrel
    by_cases hil : i < d p
    · have hNn := hgr.lt p hp i hil
      obtain ⟨b2, off2, rfl, _, hc2⟩ := (hrow1.ext hS2.ext (fun k hk e => HOut.out k hk e)) i hil
      have hokq := HOk.out (N p i)
      have hHit := fun (h : ok (N p i) = true) => mkM_hit (N := N) (p := p) h
      have hSkp := fun (h : ok (N p i) = false) => mkM_skip (N := N) (p := p) h
      obtain ⟨hcsc, hfsc, hputsc⟩ := hS2.at (N p i) hNn
      have HS3 := hputsc true
      obtain ⟨bst, offst, rfl, _, hcst⟩ := (hsta0.ext hS2.ext (fun k hk e => HOut.out k hk e)) (N p i) hNn
      obtain ⟨bpl, offpl, rfl, _, hcpq⟩ := (hpl0.ext hS2.ext (fun k hk e => HOut.out k hk e)) (N p i) hNn
      have HHit : Hid (ok (N p i) = true → mkM N ok p (i + 1) = upd1 (mkM N ok p i) (N p i) true) := hHit
      have HSkp : Hid (ok (N p i) = false → mkM N ok p (i + 1) = mkM N ok p i) := hSkp
      have HOkq : Hid (ok (N p i) = (decide (st (N p i) = 0) && !pl (N p i))) := hokq
      clear hputsc hHit hSkp hokq
      dsimp only at hc2 hcst hcpq
      generalize N p i = r at *
      by_cases hst : st r = 0
      · simp only [hst] at hcst
        cases hplr : pl r with
        | true =>
          have HE := HSkp.out (by rw [HOkq.out, hplr]; simp)
          simp only [hplr] at hcpq
          rw [← HE] at hS2
          clear hplr HE HS3 HHit HSkp HOkq hst
          go_wp2_with fail
          go_roundw
          case rel => exact ⟨i + 1, by omega, by go_num, hS2⟩
          case measure => simp [intOf]; omega
        | false =>
          have HE := HHit.out (by rw [HOkq.out, hplr, hst]; rfl)
          simp only [hplr] at hcpq
          rw [← HE] at HS3
          clear hplr HE HHit HSkp HOkq hst
          go_wp2_with fail
          go_roundw
          case rel => exact ⟨i + 1, by omega, by go_num, HS3⟩
          case measure => simp [intOf]; omega
      · have e1 : (st r == 0) = false := by rw [beq_eq_false_iff_ne]; exact hst
        have HE := HSkp.out (by rw [HOkq.out]; simp [hst])
        rw [← HE] at hS2
        clear HE HS3 HHit HSkp HOkq
        go_wp2_with fail
        go_roundw
        case rel => exact ⟨i + 1, by omega, by go_num, hS2⟩
        case measure => simp [intOf]; omega
    · have ei : i = d p := by omega
      subst i
      have hcell := cell_ext hcell1 hS2.ext hbg
      rename World => wb
      go_wp2_with fail
      go_loop [14, 15, 58] (fun s14 s15 s58 => ∃ i : Nat, i ≤ d p ∧ s58 = .int .i64 i ∧ s14 = .bool (triTo d N ok p i).1 ∧ s15 = .int .i64 (((triTo d N ok p i).2 + 2 * d p : Nat) : Int)) (fun _ _ i => d p - (intOf i).toNat)
      case atStart => exact ⟨0, Nat.zero_le _, rfl, rfl, by simp [triTo]⟩
      case round =>
        obtain ⟨i, hi, rfl, rfl, rfl⟩ := hrel
        by_cases hil : i < d p
        · have hNn := hgr.lt p hp i hil
          obtain ⟨b2, off2, rfl, _, hc2⟩ := (hrow1.ext hS2.ext (fun k hk e => HOut.out k hk e)) i hil
          have hFL := fun h => triTo_found_le d N ok (p := p) (i := i) (j := d p) h hi
          have hTS := fun hf hm => triTo_skip d N ok (p := p) (i := i) hf hm
          have hTL := fun hf hm => triTo_look d N ok (p := p) (i := i) hf hm
          have hbd : (triTo d N ok p i).2 ≤ i * 131072 := triTo_le 131072 i (fun j hj => hgr.dle _ (hgr.lt p hp j (by omega)))
          have HFD : Hid ((triTo d N ok p i).1 = true → triTo d N ok p (d p) = triTo d N ok p i) := hFL
          have HTS : Hid ((triTo d N ok p i).1 = false → mkd d N ok p (N p i) = false → triTo d N ok p (i + 1) = (false, (triTo d N ok p i).2)) := hTS
          have HTL : Hid ((triTo d N ok p i).1 = false → mkd d N ok p (N p i) = true → triTo d N ok p (i + 1) = (hmk d N ok p (N p i), (triTo d N ok p i).2 + d (N p i))) := hTL
          clear hTS hTL hFL
          obtain ⟨hcsc, _, _⟩ := hS2.at (N p i) hNn
          rw [mkM_all] at hcsc
          dsimp only at hc2
          generalize N p i = r at *
          cases hff : (triTo d N ok p i).1 with
          | true =>
            have HTB : Hid (triB d N ok p = true) := by show (triTo d N ok p (d p)).1 = true; rw [HFD.out hff]; exact hff
            have HTC : Hid (triC d N ok p = (triTo d N ok p i).2 + 2 * d p) := by show (triTo d N ok p (d p)).2 + 2 * d p = _; rw [HFD.out hff]
            have HSZ : ScS w wb g n cm (mkZ N (mkM N ok p (d p)) p 0) := by rw [mkZ_zero]; exact hS2
            clear HFD HTS HTL hff hS2 hcsc
            generalize (triTo d N ok p i).2 = fc at *
            go_wp2_with fail
            go_loopw [95] (fun s95 wr => ∃ k : Nat, k ≤ d p ∧ s95 = .int .i64 k ∧ ScS w wr g n cm (mkZ N (mkM N ok p (d p)) p k)) (fun i _ => d p - (intOf i).toNat)
            case atStart => exact ⟨0, Nat.zero_le _, rfl, HSZ⟩
            case round =>
              clear HSZ hcell hc2
              obtain ⟨k, hk, rfl, hS9⟩ := hrel
              by_cases hkl : k < d p
              · have hNn := hgr.lt p hp k hkl
                obtain ⟨_, _, eR, _, hc2⟩ := (hrow1.ext hS9.ext (fun k hk e => HOut.out k hk e)) k hkl
                obtain ⟨rfl, rfl⟩ : b2 = _ ∧ off2 = _ := by simpa using eR
                clear eR
                obtain ⟨hcsc, hfsc, hputsc⟩ := hS9.at (N p k) hNn
                have HS10 := hputsc false
                rw [← mkZ_succ] at HS10
                dsimp only at hc2
                clear hputsc
                generalize N p k = r at *
                go_wp2_with fail
                go_roundw
                case rel => exact ⟨k + 1, by omega, by go_num, HS10⟩
                case measure => simp [intOf]; omega
              · have ek : k = d p := by omega
                subst k
                rw [mkZ_end] at hS9
                go_wp2_with fail
                go_ret2
                exact ⟨by simp [HTB.out, HTC.out], hS9⟩
          | false =>
            generalize (triTo d N ok p i).2 = c at *
            cases hmr : mkd d N ok p r with
            | false =>
              have HE := HTS.out hff hmr
              have HE1 : Hid (triTo d N ok p (i + 1) = (false, c)) := HE
              simp only [hmr] at hcsc
              clear hmr HE HTS HTL HFD hff
              go_wp2_with fail
              go_round
              case rel => exact ⟨i + 1, by omega, by go_num, by rw [HE1.out], by rw [HE1.out]⟩
              case measure => simp [intOf]; omega
            | true =>
              have HE := HTL.out hff hmr
              have HE1 : Hid (triTo d N ok p (i + 1) = (hmk d N ok p r, c + d r)) := HE
              simp only [hmr] at hcsc
              clear hmr HE HTS HTL HFD hff
              obtain ⟨_, _, rr, rrc, er, hSr, hcr1, hdmr, hrr1⟩ := hadj0 r hNn
              obtain ⟨rfl, rfl⟩ : b = _ ∧ off = _ := by simpa using er
              clear er
              have hcr := cell_ext hcr1 hS2.ext hbg
              have hdr := hgr.dle r hNn
              have gr1 : (r : Int) < (n : Int) := by omega
              have gr0 : (0 : Int) ≤ (r : Int) := by omega
              go_wp2_with fail
              go_loop [14, 80] (fun s14 s80 => ∃ j : Nat, j ≤ d r ∧ s80 = .int .i64 j ∧ s14 = .bool (anyB j fun j => mkd d N ok p (N r j))) (fun _ i => d r - (intOf i).toNat)
              case atStart => exact ⟨0, Nat.zero_le _, rfl, rfl⟩
              case round =>
                obtain ⟨j, hj, rfl, rfl⟩ := hrel
                by_cases hjl : j < d r
                · have hN2 := hgr.lt r hNn j hjl
                  obtain ⟨b3, off3, rfl, _, hc3⟩ := (hrr1.ext hS2.ext (fun k hk e => HOut.out k hk e)) j hjl
                  obtain ⟨hcs2, _, _⟩ := hS2.at (N r j) hN2
                  rw [mkM_all] at hcs2
                  have hAS := anyB_succ j (fun j => mkd d N ok p (N r j))
                  dsimp only at hc3 hAS
                  have HAS : Hid (anyB (j + 1) (fun j => mkd d N ok p (N r j)) = (anyB j (fun j => mkd d N ok p (N r j)) || mkd d N ok p (N r j))) := hAS
                  clear hAS
                  cases hmm : mkd d N ok p (N r j) with
                  | true =>
                    simp only [hmm] at hcs2 HAS
                    clear hmm
                    generalize N r j = r2 at *
                    go_wp2_with fail
                    go_round
                    case rel => exact ⟨j + 1, by omega, by go_num, by rw [HAS.out]; simp⟩
                    case measure => simp [intOf]; omega
                  | false =>
                    simp only [hmm] at hcs2 HAS
                    clear hmm
                    generalize N r j = r2 at *
                    go_wp2_with fail
                    go_round
                    case rel => exact ⟨j + 1, by omega, by go_num, by rw [HAS.out]; simp⟩
                    case measure => simp [intOf]; omega
                · have ej : j = d r := by omega
                  subst j
                  go_wp2_with fail
                  go_round
                  case rel => exact ⟨i + 1, by omega, by go_num, by rw [HE1.out]; rfl, by rw [HE1.out]; congr 1; go_num⟩
                  case measure => simp [intOf]; omega
        · have ei : i = d p := by omega
          subst i
          have HSZ : ScS w wb g n cm (mkZ N (mkM N ok p (d p)) p 0) := by rw [mkZ_zero]; exact hS2
          clear hS2
          go_wp2_with fail
          go_loopw [95] (fun s95 wr => ∃ k : Nat, k ≤ d p ∧ s95 = .int .i64 k ∧ ScS w wr g n cm (mkZ N (mkM N ok p (d p)) p k)) (fun i _ => d p - (intOf i).toNat)
          case atStart => exact ⟨0, Nat.zero_le _, rfl, HSZ⟩
          case round =>
            clear HSZ hcell
            obtain ⟨k, hk, rfl, hS9⟩ := hrel
            by_cases hkl : k < d p
            · have hNn := hgr.lt p hp k hkl
              obtain ⟨b2, off2, rfl, _, hc2⟩ := (hrow1.ext hS9.ext (fun k hk e => HOut.out k hk e)) k hkl
              obtain ⟨hcsc, hfsc, hputsc⟩ := hS9.at (N p k) hNn
              have HS10 := hputsc false
              rw [← mkZ_succ] at HS10
              dsimp only at hc2
              clear hputsc
              generalize N p k = r at *
              go_wp2_with fail
              go_roundw
              case rel => exact ⟨k + 1, by omega, by go_num, HS10⟩
              case measure => simp [intOf]; omega
            · have ek : k = d p := by omega
              subst k
              rw [mkZ_end] at hS9
              go_wp2_with fail
              go_ret2
              exact ⟨rfl, hS9⟩

/-- zzTop: the greatest degree, or zero. -/
theorem top_any (w : World) (S T : Nat → Prop) (n np : Nat) (P : Nat → Nat) (dg : Nat → Int) (a0 a1 : Option Addr) (c0 c1 : Nat) (h0 : Rd S w a0 np (fun j => .int .i64 (P j : Int))) (h1 : Rd T w a1 n (fun j => .int .i64 (dg j))) (hP : ∀ i, i < np → P i < n ∧ 0 ≤ dg (P i)) (hn : n ≤ 131072) (hnp : np ≤ 131072) :
    Calls Try.prog 33 #[.slice a0 np c0, .slice a1 n c1] w fun e w' => ∃ t : Nat, e = .returned (.int .i64 (t : Int)) ∧ TopIs (fun i => dg (P i)) np t ∧ w' = w := by
  have HP : Hid (∀ i, i < np → P i < n ∧ 0 ≤ dg (P i)) := hP
  clear hP
  go_enter Try.func33, Try.ntmps33
  go_wp2_with fail
  go_loop [5, 10] (fun s5 s10 => ∃ m t : Nat, m ≤ np ∧ s10 = .int .i64 m ∧ s5 = .int .i64 (t : Int) ∧ TopIs (fun i => dg (P i)) m t) (fun _ i => np - (intOf i).toNat)
  case atStart => exact ⟨0, 0, Nat.zero_le _, rfl, rfl, ⟨fun i hi => absurd hi (Nat.not_lt_zero i), .inl rfl⟩⟩
  case round =>
    obtain ⟨m, t, hm, rfl, rfl, hT⟩ := hrel
    by_cases hml : m < np
    · obtain ⟨b, off, rfl, _, hc⟩ := h0 m hml
      obtain ⟨hPn, hd0⟩ := HP.out m hml
      obtain ⟨b1, off1, rfl, _, hc1⟩ := h1 (P m) hPn
      obtain ⟨r, hr⟩ : ∃ r : Nat, dg (P m) = r := ⟨(dg (P m)).toNat, by omega⟩
      have hT2 := hT.succ (r := r) hr
      dsimp only at hc1
      rw [hr] at hc1
      dsimp only at hc
      clear hT hd0 hr
      generalize P m = q at *
      by_cases hlt : t < r
      · have e1 : decide ((t : Int) < (r : Int)) = true := by simp; omega
        rw [show max t r = r by omega] at hT2
        go_wp2_with fail
        go_round
        case rel => exact ⟨m + 1, r, by omega, by go_num, rfl, hT2⟩
        case measure => simp [intOf]; omega
      · have e1 : decide ((t : Int) < (r : Int)) = false := by simp; omega
        rw [show max t r = t by omega] at hT2
        go_wp2_with fail
        go_round
        case rel => exact ⟨m + 1, t, by omega, by go_num, rfl, hT2⟩
        case measure => simp [intOf]; omega
    · have em : m = np := by omega
      subst m
      go_wp2_with fail
      go_ret
      exact ⟨t, rfl, hT, rfl⟩
end Go.Proofs.Qxb6601557a
