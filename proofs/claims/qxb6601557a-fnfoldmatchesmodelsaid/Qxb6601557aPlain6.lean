/-
  The touched places as the law gathers them: three passes; the memory of the two tables. By an AI agent.
-/
import Derived.Test.Qxb6601557aEnd3
namespace Go.Proofs.Qxb6601557a
set_option linter.unusedVariables false
open Go.RowKit

/-- what take leaves behind g passes. -/
def Sg (st : Nat → Int) (d : Nat → Nat) (N : Nat → Nat → Nat) (qu : Nat → Bool) (n6 : Nat) (tu : Nat → Int) (v u w : Nat) : Nat → TS
  | 0 => ⟨qu, n6, tu⟩
  | 1 => runT (upd st v 3) (N v) ⟨qu, n6, tu⟩ (d v)
  | 2 => runT (upd (upd st v 3) u 3) (N u) (runT (upd st v 3) (N v) ⟨qu, n6, tu⟩ (d v)) (d u)
  | _ => runT (upd (upd (upd st v 3) u 3) w 3) (N w) (runT (upd (upd st v 3) u 3) (N u) (runT (upd st v 3) (N v) ⟨qu, n6, tu⟩ (d v)) (d u)) (d w)

/-- the states of a pass beside the law's. -/
structure Psg (st stg : Nat → Int) (v : Nat) (s : TS) : Prop where
  a : ∀ q, stg q = 0 → q ≠ v ∧ st q = 0
  b : ∀ q, q ≠ v → st q = 0 → stg q ≠ 0 → s.qu q = true

theorem psg0 (st : Nat → Int) (v : Nat) (s : TS) : Psg st (upd st v 3) v s := by
  refine ⟨fun q h => ?_, fun q h1 h2 h3 => ?_⟩
  · by_cases e : q = v
    · subst e; rw [upd_same] at h; cases h
    · rw [upd_other _ _ _ _ e] at h; exact ⟨e, h⟩
  · rw [upd_other _ _ _ _ h1] at h3; exact absurd h2 h3

theorem Psg.next {st stg : Nat → Int} {v u : Nat} {s s' : TS} (h : Psg st stg v s) (hs : ∀ q, s.qu q = true → s'.qu q = true) (hu : s'.qu u = true) : Psg st (upd stg u 3) v s' := by
  refine ⟨fun q hq => ?_, fun q h1 h2 h3 => ?_⟩
  · by_cases e : q = u
    · subst e; rw [upd_same] at hq; cases hq
    · rw [upd_other _ _ _ _ e] at hq; exact h.a q hq
  · by_cases e : q = u
    · subst e; exact hu
    · rw [upd_other _ _ _ _ e] at h3; exact hs q (h.b q h1 h2 h3)

theorem runT_mono (stg : Nat → Int) (f : Nat → Nat) (s : TS) (m q : Nat) (h : s.qu q = true) : (runT stg f s m).qu q = true := by rw [runT_qu, h]; simp

section
variable {n : Nat} {st stg : Nat → Int} {v : Nat} {f : Nat → Nat} {s : TS} {c q k : Nat} {qu seen : Nat → Bool} {t : Nat → Int}

theorem step_hit (hp : Psg st stg v s) (hM : MS n qu seen k t (runT stg f s c)) (hf : f c = q) (hq : q < n) (hv : q ≠ v) (hs : st q = 0) (h1 : qu q = false) (h2 : seen q = false) :
    MS n qu (upd seen q true) (k + 1) (upd t k (q : Int)) (runT stg f s (c + 1)) := by
  have hz : stg q = 0 := by
    by_cases e : stg q = 0
    · exact e
    · exfalso
      have h4 : (runT stg f s c).qu q = true := runT_mono _ _ _ _ _ (hp.b q hv hs e)
      rw [hM.qu q hq, h1, h2] at h4
      simp at h4
  show MS n qu (upd seen q true) (k + 1) (upd t k (q : Int)) (if stg (f c) = 0 then tS (runT stg f s c) (f c) else runT stg f s c)
  rw [hf, if_pos hz]
  exact hM.hit hq h1 h2

theorem step_no (hp : Psg st stg v s) (hM : MS n qu seen k t (runT stg f s c)) (hf : f c = q) (hq : q < n) (h : q = v ∨ st q ≠ 0 ∨ qu q = true ∨ seen q = true) :
    MS n qu seen k t (runT stg f s (c + 1)) := by
  show MS n qu seen k t (if stg (f c) = 0 then tS (runT stg f s c) (f c) else runT stg f s c)
  rw [hf]
  by_cases hz : stg q = 0
  · rw [if_pos hz]
    obtain ⟨a1, a2⟩ := hp.a q hz
    refine hM.miss hq ?_
    rcases h with h | h | h | h
    · exact absurd h a1
    · exact absurd a2 h
    · exact .inl h
    · exact .inr h
  · rw [if_neg hz]; exact hM

theorem MS.kle (hM : MS n qu seen k t (runT stg f s c)) : k ≤ s.nu + c := by
  have h := runT_nu stg f s c
  rw [hM.nu] at h
  exact h
end

section
variable {n : Nat} {d : Nat → Nat} {N : Nat → Nat → Nat} {st : Nat → Int} {v u w iu iw : Nat}

theorem Two.quu (hg : GN n d N) (h : Two n d N st v u w iu iw) (s : TS) : (runT (upd st v 3) (N v) s (d v)).qu u = true := by
  have h1 := h.lt
  have h2 := h.hw
  have hne : u ≠ v := by have := hg.ne v h.hv iu (by omega); rw [h.eu] at this; exact this
  have hm : memN (d v) (N v) u = true := by rw [memN_iff]; exact ⟨iu, by omega, h.eu⟩
  rw [runT_qu, hm, isF_true (by rw [upd_other _ _ _ _ hne]; exact h.fu)]
  simp
theorem Two.quw (hg : GN n d N) (h : Two n d N st v u w iu iw) (s : TS) : (runT (upd st v 3) (N v) s (d v)).qu w = true := by
  have h2 := h.hw
  have hne : w ≠ v := by have := hg.ne v h.hv iw h2; rw [h.ew] at this; exact this
  have hm : memN (d v) (N v) w = true := by rw [memN_iff]; exact ⟨iw, h2, h.ew⟩
  rw [runT_qu, hm, isF_true (by rw [upd_other _ _ _ _ hne]; exact h.fw)]
  simp

variable {qu : Nat → Bool} {n6 : Nat} {tu : Nat → Int}
theorem Two.p0 : Psg st (upd st v 3) v (Sg st d N qu n6 tu v u w 0) := psg0 _ _ _
theorem Two.p1 (hg : GN n d N) (h : Two n d N st v u w iu iw) : Psg st (upd (upd st v 3) u 3) v (Sg st d N qu n6 tu v u w 1) :=
  (psg0 st v (Sg st d N qu n6 tu v u w 0)).next (fun q hq => runT_mono _ _ _ _ _ hq) (h.quu hg _)
theorem Two.p2 (hg : GN n d N) (h : Two n d N st v u w iu iw) : Psg st (upd (upd (upd st v 3) u 3) w 3) v (Sg st d N qu n6 tu v u w 2) :=
  (h.p1 hg (qu := qu) (n6 := n6) (tu := tu)).next (fun q hq => runT_mono _ _ _ _ _ hq) (runT_mono _ _ _ _ _ (h.quw hg _))
theorem Sg_nu0 : (Sg st d N qu n6 tu v u w 0).nu = n6 := rfl
theorem Sg_nu1 : (Sg st d N qu n6 tu v u w 1).nu ≤ n6 + d v := runT_nu _ _ _ _
theorem Sg_nu2 : (Sg st d N qu n6 tu v u w 2).nu ≤ n6 + d v + d u := by
  have h1 := runT_nu (upd (upd st v 3) u 3) (N u) (Sg st d N qu n6 tu v u w 1) (d u)
  have h2 := Sg_nu1 (st := st) (d := d) (N := N) (v := v) (u := u) (w := w) (qu := qu) (n6 := n6) (tu := tu)
  show (runT (upd (upd st v 3) u 3) (N u) (Sg st d N qu n6 tu v u w 1) (d u)).nu ≤ n6 + d v + d u
  omega
theorem Sg_nu3 : (Sg st d N qu n6 tu v u w 3).nu ≤ n6 + d v + d u + d w := by
  have h1 := runT_nu (upd (upd (upd st v 3) u 3) w 3) (N w) (Sg st d N qu n6 tu v u w 2) (d w)
  have h2 := Sg_nu2 (st := st) (d := d) (N := N) (v := v) (u := u) (w := w) (qu := qu) (n6 := n6) (tu := tu)
  show (runT (upd (upd (upd st v 3) u 3) w 3) (N w) (Sg st d N qu n6 tu v u w 2) (d w)).nu ≤ n6 + d v + d u + d w
  omega
end

/-- the list of the touched and the table of the seen. -/
structure Mem6 (wQ wr : World) (gS n k cT : Nat) (aT : Option Addr) (seen : Nat → Bool) (t : Nat → Int) : Prop where
  li : Own (fun b => wQ.heap.size ≤ b ∧ b ≠ gS) 3 wr aT k cT (fun i => .int .i64 (t i))
  se : Own (fun b => b = gS) 4 wr (some ⟨gS, 0, none⟩) n n (fun j => .bool (seen j))
  ext : Ext (fun _ => False) wQ wr
  lo : wQ.heap.size ≤ gS
  hi : gS < wr.heap.size

theorem Mem6.start {wQ w1 ws : World} {b aT : Option Addr} {n n6 gS : Nat} {tu : Nat → Int} (hcp : Copied 3 wQ w1 b aT n6 (fun j => .int .i64 (tu j))) (ho : Own (fun k => k = w1.heap.size) 4 ws (some ⟨w1.heap.size, 0, none⟩) n n (fun _ => .bool false)) (hx : Ext (fun _ => False) w1 ws) (hz : ws.heap.size = w1.heap.size + 1) (hgS : w1.heap.size = gS) :
    Mem6 wQ ws gS n n6 n6 aT (fun _ => false) tu := by
  subst hgS
  refine ⟨?_, ho, hcp.ext.trans hx (fun _ _ h => h), hcp.ext.size, by omega⟩
  rcases hcp.own with ⟨h1, h2, h3⟩ | ⟨g, cur, rfl, hS, hg, r⟩
  · exact .inl ⟨h1, h2, h3⟩
  · have hlt := (Array.getElem?_eq_some_iff.1 hg).1
    have hS' : g = wQ.heap.size := hS
    have h5 : Own (fun b => wQ.heap.size ≤ b ∧ b ≠ w1.heap.size) 3 w1 (some ⟨g, 0, none⟩) n6 n6 (fun i => .int .i64 (tu i)) := .inr ⟨g, cur, rfl, ⟨by omega, by omega⟩, hg, r⟩
    exact h5.ext hx (fun _ _ h => h)

theorem Mem6.hit {wQ wr wN : World} {o : Obj} {gS n k cT cN q : Nat} {aT aN : Option Addr} {seen : Nat → Bool} {t : Nat → Int} {S' : Nat → Prop} (h : Mem6 wQ wr gS n k cT aT seen t) (hq : q < n)
    (hoN : Own S' 3 wN aN (k + 1) cN (upd (fun i => .int .i64 (t i)) k (.int .i64 (q : Int)))) (hS' : ∀ b, S' b → (wQ.heap.size ≤ b ∧ b ≠ gS) ∨ wr.heap.size ≤ b)
    (hxN : Ext (fun b => wQ.heap.size ≤ b ∧ b ≠ gS) ((wr.setCell ⟨gS, q, none⟩ (.bool true)).alloc o) wN) :
    Mem6 wQ wN gS n (k + 1) cN aN (upd seen q true) (upd t k (q : Int)) := by
  have h1 := h.ext.size
  have h2 := h.lo
  have h3 := h.hi
  obtain ⟨g', eg', _, _, _, _, hput⟩ := h.se.at q hq
  obtain rfl : gS = g' := by injection eg' with e1; injection e1
  refine ⟨(hoN.mono (fun b hb => ?_)).congr (fun i hi => ?_), ?_, ?_, h2, ?_⟩
  · rcases hS' b hb with hb | hb
    · exact hb
    · exact ⟨by omega, by omega⟩
  · by_cases e : i = k
    · subst e; rw [upd_same, upd_same]
    · rw [upd_other _ _ _ _ e, upd_other _ _ _ _ e]
  · refine (((hput (.bool true)).alloc o).ext hxN (fun b e hb => hb.2 e)).congr (fun j hj => ?_)
    by_cases e : j = q
    · subst e; rw [upd_same, upd_same]
    · rw [upd_other _ _ _ _ e, upd_other _ _ _ _ e]
  · exact ((h.ext.setCell (fun hlt => absurd hlt (Nat.not_lt.2 h2)) _).alloc o).trans hxN (fun i hi hh => absurd hi (Nat.not_lt.2 hh.1))
  · have h5 := hxN.size
    simp [World.setCell] at h5
    omega
end Go.Proofs.Qxb6601557a
