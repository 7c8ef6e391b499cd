/-
  byDegree(places, true): the walk. By an AI agent.
-/
import Derived.Test.Qxb6601557aDegA
namespace Go.Proofs.Qxb6601557a
set_option linter.unusedVariables false
open Go.RowKit

set_option maxHeartbeats 1000000 in
theorem deg_any (w : World) (bs : Nat) (S : Nat → Prop) (v : Nat → Value) (n : Nat) (dg : Nat → Int) (ap : Option Addr) (np cp : Nat) (P : Nat → Nat) (steps : Int) (hin : DegIn w bs S v n dg ap np P) (hv4 : v 4 = .int .i64 steps) (hn : n ≤ 131072) (hnp : np ≤ 131072) :
    Calls Try.prog 46 #[.pointer (some ⟨bs, 0, none⟩), .slice ap np cp, .bool true] w fun e w' => ∃ q t Q, e = .returned (.slice (some ⟨q, 0, none⟩) np np) ∧ DegOut w w' bs v q np dg P steps t Q := by
  go_enter Try.func46, Try.ntmps46
  go_wp2_with fail
  go_loopw [20] (fun i wr => ∃ m t : Nat, m ≤ np ∧ i = .int .i64 m ∧ t ≤ n ∧ Boxes w wr bs t ∧ TopIs (fun i => dg (P i)) m t) (fun i _ => np - (intOf i).toNat)
  case atStart => exact ⟨0, 0, Nat.zero_le _, rfl, Nat.zero_le _, Boxes.start w bs, ⟨fun i hi => absurd hi (Nat.not_lt_zero i), .inl rfl⟩⟩
  case round =>
    obtain ⟨m, t, hm, rfl, htn, hbx, htop⟩ := hrel
    by_cases hlt : m < np
    · obtain ⟨hPn, hd0, hd1⟩ := hin.ok m hlt
      obtain ⟨b, off, rfl, _, hc⟩ := (hin.pl.ext hbx.ext (fun _ _ h => h)) m hlt
      obtain ⟨⟨ad, cd, hs2, hrd⟩, hk0, _, hk2⟩ := hbx.key hin
      obtain ⟨b', off', rfl, _, hcd⟩ := hrd (P m) hPn
      obtain ⟨r, hr⟩ := Int.eq_ofNat_of_zero_le hd0
      have HR : Hid (dg (P m) = r) := hr
      simp only [hr] at hcd hd1
      clear hr hd0
      obtain ⟨_, _, hS, _, _, hfz, _⟩ := hbx.b2.at 0 (by omega)
      obtain rfl := hS
      have hrs := fun t => hbx.raise (t := t)
      have HRS : Hid (∀ t : Nat, Boxes w (wr.setCell ⟨w.heap.size + 1 + 1, 0, none⟩ (.int .i64 (t : Int))) bs t) := hrs
      clear hrs
      have g1 : (P m : Int) < n := by omega
      have g2 : (0 : Int) ≤ P m := by omega
      go_wp2_with fail
      go_region
      go_wp2_with fail
      go_roundw
      case rel =>
        refine ⟨m + 1, max t r, by omega, by go_num, by omega, ?_, htop.succ HR.out⟩
        rw [show (if t < r then (r : Int) else (t : Int)) = ((max t r : Nat) : Int) by split <;> omega]
        exact (HRS.out _).drew
      case measure => simp [intOf]; omega
    · have em : m = np := by omega
      subst m
      rename World => wA
      obtain ⟨_, hk0, hk1, hk2⟩ := hbx.key hin
      go_wp2_with (at_make; refine wpList_mk _ rfl _ _ 24 rfl 3 (.int .i64 0) 8 Try.underlying24 info3 rfl _ _ (t + 2) rfl rfl (by omega) (by omega) (by omega) (by omega) ?_)
      intro w1 hown hext hsz
      have HS : Starts w w1 bs t wA.heap.size (stA (keyOf t dg P) 0) := ⟨hbx.later (hext.mono (fun _ _ h => h.elim)), hown.congr (fun j _ => by simp [stA, cnt]), hbx.size⟩
      clear hown hext hsz hk0 hk1 hk2 hbx
      generalize wA.heap.size = g at HS ⊢
      go_wp2_with fail
      go_loopw [40] (fun i wr => ∃ m : Nat, m ≤ np ∧ i = .int .i64 m ∧ Starts w wr bs t g (stA (keyOf t dg P) m)) (fun i _ => np - (intOf i).toNat)
      case atStart => exact ⟨0, Nat.zero_le _, rfl, HS⟩
      case round =>
        clear HS
        obtain ⟨m, hm, rfl, hS⟩ := hrel
        by_cases hlt : m < np
        · obtain ⟨hPn, hd0, hd1⟩ := hin.ok m hlt
          obtain ⟨b, off, rfl, _, hc⟩ := (hin.pl.ext hS.bx.ext (fun _ _ h => h)) m hlt
          have hkey := hS.bx.key hin
          have htm := htop.le m hlt
          have hKt : keyOf t dg P m ≤ t := by unfold keyOf; omega
          have hcl := cnt_le m (fun i => decide (keyOf t dg P i + 1 = keyOf t dg P m + 1))
          go_wp2_with fail
          refine (key_any _ bs _ _ _ S n dg t hkey (P m) hPn (by omega) (by omega) hd0 htm).mono ?_
          rintro e w2 ⟨rfl, k, rfl⟩
          have hKm : Hid (t - (dg (P m)).toNat = keyOf t dg P m) := rfl
          generalize t - (dg (P m)).toNat = kk at hKm ⊢
          obtain ⟨hcs, hfs⟩ := (hS.drewN k).at (kk + 1) (by have := hKm.out; omega)
          have hput := (hS.drewN k).put (f' := stA (keyOf t dg P) (m + 1)) (kk + 1) (by have := hKm.out; omega) (stA (keyOf t dg P) m (kk + 1) + 1) (fun i => by rw [stA_succ, ← hKm.out]; split <;> simp_all)
          have HP : Hid (Starts w ((wr.drewN k).setCell ⟨g, kk + 1, none⟩ (.int .i64 ((stA (keyOf t dg P) m (kk + 1) + 1 : Nat) : Int))) bs t g (stA (keyOf t dg P) (m + 1))) := hput
          have hb : stA (keyOf t dg P) m (kk + 1) ≤ m := cnt_le _ _
          clear hput
          generalize stA (keyOf t dg P) m (kk + 1) = x at *
          have hkt : kk ≤ t := by have := hKm.out; omega
          clear hkey hcl htm
          go_wp2_with fail
          go_roundw
          case rel => exact ⟨m + 1, by omega, by go_num, HP.out⟩
          case measure => simp [intOf]; omega
        · have em : m = np := by omega
          subst m
          rename World => wB
          have HB : Starts w wB bs t g (stB np (keyOf t dg P) 1) := ⟨hS.bx, hS.st.congr (fun j _ => by rw [stB_one]), hS.lo⟩
          clear hS
          go_wp2_with fail
          go_loopw [14] (fun i wr => ∃ k : Nat, 1 ≤ k ∧ k ≤ t + 2 ∧ i = .int .i64 k ∧ Starts w wr bs t g (stB np (keyOf t dg P) k)) (fun i _ => t + 2 - (intOf i).toNat)
          case atStart => exact ⟨1, by omega, by omega, rfl, HB⟩
          case round =>
            clear HB
            obtain ⟨k, hk1, hk2, rfl, hS⟩ := hrel
            by_cases hkt : k < t + 2
            · obtain ⟨hc1, hf1⟩ := hS.at k hkt
              obtain ⟨hc2, hf2⟩ := hS.at (k - 1) (by omega)
              have HP : Hid (Starts w (wr.setCell ⟨g, k, none⟩ (.int .i64 ((stB np (keyOf t dg P) k k + stB np (keyOf t dg P) k (k - 1) : Nat) : Int))) bs t g (stB np (keyOf t dg P) (k + 1))) :=
                hS.put k hkt _ (fun i => stB_succ np (keyOf t dg P) k i hk1)
              have hx : stB np (keyOf t dg P) k k ≤ np := by unfold stB; split <;> exact cnt_le _ _
              have hy : stB np (keyOf t dg P) k (k - 1) ≤ np := by unfold stB; split <;> exact cnt_le _ _
              generalize stB np (keyOf t dg P) k k = x at *
              generalize stB np (keyOf t dg P) k (k - 1) = y at *
              have g1 : (k : Int) < ((t + 2 : Nat) : Int) := by omega
              have g2 : (k : Int) - 1 < ((t + 2 : Nat) : Int) := by omega
              have g3 : (0 : Int) ≤ (k : Int) - 1 := by omega
              go_wp2_with fail
              go_region
              go_wp2_with fail
              go_roundw
              case rel => exact ⟨k + 1, by omega, by omega, by go_num, HP.out.drew⟩
              case measure => simp [intOf]; omega
            · have em : k = t + 2 := by omega
              subst k
              rename World => wC
              have HC : Starts w wC bs t g (stC np (keyOf t dg P) 0) := ⟨hS.bx, hS.st.congr (fun j hj => by rw [stB_last _ _ _ _ hj]), hS.lo⟩
              clear hS
              go_wp2_with (at_make; refine wpList_mk _ rfl _ _ 24 rfl 3 (.int .i64 0) 8 Try.underlying24 info3 rfl _ _ np rfl rfl rfl rfl (by omega) (by omega) ?_)
              intro w1 hown hext hsz
              have HO : Order w w1 bs t g wC.heap.size np (stC np (keyOf t dg P) 0) (fun _ => 0) :=
                ⟨⟨HC.bx.later (hext.mono (fun _ _ h => h.elim)), HC.st.ext hext (fun _ _ h => h), HC.lo⟩, hown, HC.st.head_lt⟩
              clear hown hext hsz HC
              generalize wC.heap.size = q at HO ⊢
              go_wp2_with fail
              go_loopw [76] (fun i wr => ∃ (m : Nat) (Q : Nat → Int), m ≤ np ∧ i = .int .i64 m ∧ Order w wr bs t g q np (stC np (keyOf t dg P) m) Q ∧ LaidTo np (keyOf t dg P) P Q m) (fun i _ => np - (intOf i).toNat)
              case atStart => exact ⟨0, _, Nat.zero_le _, rfl, HO, fun i hi => absurd hi (Nat.not_lt_zero i)⟩
              case round =>
                clear HO
                obtain ⟨m, Q, hm, rfl, hO, hla⟩ := hrel
                by_cases hlt : m < np
                · obtain ⟨hPn, hd0, hd1⟩ := hin.ok m hlt
                  obtain ⟨b, off, rfl, _, hc⟩ := (hin.pl.ext hO.s.bx.ext (fun _ _ h => h)) m hlt
                  have hkey := hO.s.bx.key hin
                  have htm := htop.le m hlt
                  go_wp2_with fail
                  refine (key_any _ bs _ _ _ S n dg t hkey (P m) hPn (by omega) (by omega) hd0 htm).mono ?_
                  rintro e w2 ⟨rfl, k, rfl⟩
                  have hKm : Hid (t - (dg (P m)).toNat = keyOf t dg P m) := rfl
                  have hKt : t - (dg (P m)).toNat ≤ t := by omega
                  have hO2 := hO.drewN k
                  have hc' : (wr.drewN k).cell? ⟨b, off + m, none⟩ = some (.int .i64 (P m : Int)) := hc
                  generalize wr.drewN k = w3 at hO2 hc' ⊢
                  clear hO hc hkey
                  generalize t - (dg (P m)).toNat = kk at hKm hKt ⊢
                  obtain ⟨hcs, hfs⟩ := hO2.s.at kk (by omega)
                  have hrk : Hid (stC np (keyOf t dg P) m kk = rk np (keyOf t dg P) m) := by rw [hKm.out]; exact stC_rk np (keyOf t dg P) m
                  have hrl : stC np (keyOf t dg P) m kk < np := by rw [hrk.out]; exact rk_lt hlt
                  have hsC : Hid (stC np (keyOf t dg P) m kk = stC np (keyOf t dg P) m kk) := rfl
                  generalize hxx : stC np (keyOf t dg P) m kk = x at hcs hrk hrl
                  have hX : Hid (stC np (keyOf t dg P) m kk = x) := hxx
                  clear hxx hsC
                  obtain ⟨hfo, hco⟩ := hO2.at x hrl
                  have hO3 := hO2.put x hrl (P m : Int)
                  have hla' := hla.succ hlt
                  rw [← hrk.out] at hla'
                  clear hla hO2
                  go_wp2_with fail
                  generalize w3.setCell ⟨q, x, none⟩ (.int .i64 (P m : Int)) = w4 at hO3 ⊢
                  have hkey := hO3.s.bx.key hin
                  refine (key_any _ bs _ _ _ S n dg t hkey (P m) hPn (by omega) (by omega) hd0 htm).mono ?_
                  rintro e w5 ⟨rfl, k2, rfl⟩
                  have hO5 := hO3.drewN k2
                  generalize w4.drewN k2 = w6 at hO5 ⊢
                  rw [show t - (dg (P m)).toNat = kk from hKm.out.symm]
                  clear hO3 hkey hc' hcs hfs hfo hco
                  obtain ⟨hcs, hfs⟩ := hO5.s.at kk (by omega)
                  rw [hX.out] at hcs
                  have HP : Hid (Order w (w6.setCell ⟨g, kk, none⟩ (.int .i64 ((x + 1 : Nat) : Int))) bs t g q np (stC np (keyOf t dg P) (m + 1)) (upd Q x (P m : Int))) :=
                    hO5.putS kk (by omega) (x + 1) (fun i => by
                      rw [stC_succ, ← hKm.out]
                      by_cases e : i = kk
                      · rw [if_pos e, if_pos e, e, hX.out]
                      · rw [if_neg e, if_neg e])
                  clear hO5
                  go_wp2_with fail
                  go_roundw
                  case rel => exact ⟨m + 1, _, by omega, by go_num, HP.out, hla'⟩
                  case measure => simp [intOf]; omega
                · have em : m = np := by omega
                  subst m
                  rename World => wD
                  obtain ⟨_, hk0, hk1, hk2⟩ := hO.s.bx.key hin
                  have hstr := hin.str.ext hO.s.bx.ext (fun _ _ h => h)
                  obtain ⟨gb, _, hSb, hblt, hc4, hf4, hst4⟩ := hstr.at 4 (by omega)
                  have hSb' : gb = bs := hSb
                  subst gb
                  rw [hv4] at hc4
                  have hfin : Hid (∀ u : Value, Own (fun k => k = bs) 66 (wD.setCell ⟨bs, 4, none⟩ u) (some ⟨bs, 0, none⟩) 12 12 (upd v 4 u)) := hst4
                  clear hst4 hstr
                  go_wp2_with fail
                  go_region
                  go_wp2_with fail
                  go_ret
                  have hbs := hin.str.head_lt
                  have hlo := hO.s.lo
                  have hlt2 := hO.lt
                  have hx : Ext (fun k => k = bs) wD (wD.setCell ⟨bs, 4, none⟩ (.int .i64 (wrap64 (steps + (2 * np + t))))) := (Ext.refl (fun k => k = bs) _).setCell (fun _ => rfl) _
                  exact ⟨q, t, Q, rfl, htop, hla, (hO.or_.ext hx (fun k hk => by omega)).drew, by omega, ((hO.s.bx.ext.mono (fun _ _ h => h.elim)).trans hx (fun _ _ h => h)).drew, (hfin.out _).drew⟩
end Go.Proofs.Qxb6601557a
