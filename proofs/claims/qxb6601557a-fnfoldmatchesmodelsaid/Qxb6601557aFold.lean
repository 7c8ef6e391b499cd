/-
  fold: the walk. By an AI agent.
-/
import Derived.Test.Qxb6601557aFoldB
import Derived.Deep.CutRange
namespace Go.Proofs.Qxb6601557a
set_option linter.unusedVariables false
open Go.RowKit

/-- the fold's own struct while v's row is read. -/
def fvA (n v u w iu iw i : Nat) (j : Nat) : Value := .int .i64 (if j = 0 then (n : Int) else if j = 1 then (v : Int) else if j = 2 then (if i ≤ iu then -1 else (u : Int)) else (if i ≤ iw then 0 else (w : Int)))

def sLen : Value → Nat
  | .slice _ n _ => n
  | _ => 0

theorem Rd.tl {S : Nat → Prop} {w : World} {b off m c : Nat} {f : Nat → Value} (h : Rd S w (some ⟨b, off, none⟩) (m + 1) f) (hc : m + 1 ≤ c) : Rd S w (if c = 1 then some ⟨b, off, none⟩ else some ⟨b, off + 1, none⟩) m (fun k => f (k + 1)) := by
  intro j hj
  rw [if_neg (by omega)]
  obtain ⟨b', off', e, hS, hce⟩ := h (j + 1) (by omega)
  obtain ⟨rfl, rfl⟩ : b = b' ∧ off = off' := by simpa using e
  exact ⟨b, off + 1, rfl, hS, by rw [show off + 1 + j = off + (j + 1) by omega]; exact hce⟩

def okM (x : FA) (v : Nat) (q : Nat) : Bool := decide (q ≠ v) && decide (x.st q = 0)

/-- the merge's state. -/
structure M2 (W w0 : World) (bs bf : Nat) (x xC : FA) (n v u w iu iw : Nat) (tg : Nat → Nat) (wr : World) (i j nm mu mw cM cA cB : Nat) (mk : Nat → Nat) (aM A B : Option Addr) : Prop where
  eu : i + mu = x.d u
  ew : j + mw = x.d w
  cu : mu ≤ cA
  cw : mw ≤ cB
  fm : FM W tg wr bs xC
  ext : Ext (fun k => W.heap.size ≤ k) w0 wr
  o14 : Own (Tg W tg 14) 68 wr (some ⟨bf, 0, none⟩) 4 4 (fvA n v u w iu iw (x.d v))
  ra : Rd (Tg W tg 12) wr A mu (fun k => .int .i64 (x.N u (i + k) : Nat))
  rb : Rd (Tg W tg 12) wr B mw (fun k => .int .i64 (x.N w (j + k) : Nat))
  o15 : Own (Tg W tg 15) 3 wr aM nm cM (fun k => .int .i64 (mk k : Int))
  mg : MergeOk (x.N u) (x.N w) (x.d u) (x.d w) (okM x v) i j nm mk

section
variable {W w0 : World} {bs bf : Nat} {x xC : FA} {n v u w iu iw : Nat} {tg : Nat → Nat} {wr w3 : World} {i j nm mu mw cM cA cB : Nat} {mk : Nat → Nat} {aM A B : Option Addr}

theorem M2.skip (h : M2 W w0 bs bf x xC n v u w iu iw tg wr i j nm mu mw cM cA cB mk aM A B) {i' j' mu' mw' cA' cB' : Nat} {A' B' : Option Addr} (eu : i' + mu' = x.d u) (ew : j' + mw' = x.d w) (cu : mu' ≤ cA') (cw : mw' ≤ cB')
    (ra : Rd (Tg W tg 12) wr A' mu' (fun k => .int .i64 (x.N u (i' + k) : Nat))) (rb : Rd (Tg W tg 12) wr B' mw' (fun k => .int .i64 (x.N w (j' + k) : Nat))) (mg : MergeOk (x.N u) (x.N w) (x.d u) (x.d w) (okM x v) i' j' nm mk) :
    M2 W w0 bs bf x xC n v u w iu iw tg wr i' j' nm mu' mw' cM cA' cB' mk aM A' B' :=
  ⟨eu, ew, cu, cw, h.fm, h.ext, h.o14, ra, rb, h.o15, mg⟩
theorem M2.dr (h : M2 W w0 bs bf x xC n v u w iu iw tg wr i j nm mu mw cM cA cB mk aM A B) (k : Nat) : M2 W w0 bs bf x xC n v u w iu iw tg (wr.drewN k) i j nm mu mw cM cA cB mk aM A B :=
  ⟨h.eu, h.ew, h.cu, h.cw, h.fm.drewN k, h.ext.drewN k, h.o14.drewN k, h.ra, h.rb, h.o15.drewN k, h.mg⟩

/-- a number goes over, and is put on the list. -/
theorem M2.put (h : M2 W w0 bs bf x xC n v u w iu iw tg wr i j nm mu mw cM cA cB mk aM A B) {i' j' mu' mw' cA' cB' q cM' b : Nat} {A' B' aM' : Option Addr} {w1 wA : World} (eu : i' + mu' = x.d u) (ew : j' + mw' = x.d w) (cu : mu' ≤ cA') (cw : mw' ≤ cB')
    (ra : Rd (Tg W tg 12) wr A' mu' (fun k => .int .i64 (x.N u (i' + k) : Nat))) (rb : Rd (Tg W tg 12) wr B' mw' (fun k => .int .i64 (x.N w (j' + k) : Nat))) (h1 : Ext (fun _ => False) wr w1) (hA : Ext (fun _ => False) w1 wA) (hb : wA.heap.size = b)
    (ho : Own (fun k => Tg W tg 15 k ∨ k = b) 3 w3 aM' (nm + 1) cM' (upd (fun k => .int .i64 (mk k : Int)) nm (.int .i64 (q : Int)))) (hx : Ext (Tg W tg 15) wA w3) (mg : MergeOk (x.N u) (x.N w) (x.d u) (x.d w) (okM x v) i' j' (nm + 1) (upd mk nm q)) :
    M2 W w0 bs bf x xC n v u w iu iw (upd tg b 15) w3 i' j' (nm + 1) mu' mw' cM' cA' cB' (upd mk nm q) aM' A' B' := by
  have hA := h1.trans hA (fun _ _ h => h)
  have hs := hA.size
  have hsz := h.fm.siz
  have hx1 : Ext (Tg W tg 15) wr w3 := ((Ext.refl (Tg W tg 15) wr).trans hA (fun _ _ h => h.elim)).trans hx (fun _ _ h => h)
  have htg : ∀ k, k < wr.heap.size → upd tg b 15 k = tg k := fun k hk => upd_other _ _ _ _ (by omega)
  have ne : ∀ {t : Nat}, t ≠ 15 → ∀ k, Tg W tg t k → ¬ Tg W tg 15 k := fun hne k hk e => by have := hk.1; have := e.1; omega
  refine ⟨eu, ew, cu, cw, h.fm.later hx1 (fun k _ ht e => by have := e.1; omega) htg, h.ext.trans hx1 (fun k _ e => e.2), h.o14.tagged hx1 (ne (by omega)) htg, ra.tagged hx1 (ne (by omega)) htg, rb.tagged hx1 (ne (by omega)) htg, ?_, mg⟩
  refine (ho.mono (fun k hk => ?_)).congr (fun k _ => upd_map (fun n : Nat => Value.int .i64 (n : Int)) mk nm q k)
  rcases hk with hk | rfl
  · by_cases e : k = b
    · subst e; exact ⟨upd_same _ _ _, by omega⟩
    · exact ⟨by rw [upd_other _ _ _ _ e]; exact hk.1, hk.2⟩
  · exact ⟨upd_same _ _ _, by omega⟩
end

theorem three_all {P : Nat → Prop} {v u w : Nat} (hv : P v) (hu : P u) (hw : P w) (k : Nat) : P (three v u w k) := by
  unfold three
  split
  · exact hv
  · split
    · exact hu
    · exact hw

/-- the takes' state. -/
structure M3 (W w0 : World) (bs bf b16 : Nat) (x xC : FA) (n v u w iu iw : Nat) (nm cM : Nat) (mk : Nat → Nat) (aM : Option Addr) (tg : Nat → Nat) (wr : World) (k : Nat) (y : FA) : Prop where
  fm : FM W tg wr bs y
  ext : Ext (fun k => W.heap.size ≤ k) w0 wr
  o14 : Own (Tg W tg 14) 68 wr (some ⟨bf, 0, none⟩) 4 4 (fvA n v u w iu iw (x.d v))
  o15 : Own (Tg W tg 15) 3 wr aM nm cM (fun k => .int .i64 (mk k : Int))
  o16 : Own (Tg W tg 16) 3 wr (some ⟨b16, 0, none⟩) 3 3 (fun k => .int .i64 (three v u w k : Int))
  tk : TK (three v u w) xC k y

def val36 (bs bf g q n nA cA dq : Nat) (rq : Option Addr) : Nat → Option Value
  | 0 => some (.pointer (some ⟨bs, 0, none⟩))
  | 1 => some (.pointer (some ⟨bs, 0, none⟩))
  | 2 => some (.pointer (some ⟨bs, 0, none⟩))
  | 3 => some (.slice (some ⟨g, 0, none⟩) nA cA)
  | 4 => some (.int .i64 (q : Int))
  | 5 => some (.pointer (some ⟨bs, 0, none⟩))
  | 6 => some (.pointer (some ⟨bs, 0, none⟩))
  | 7 => some (.pointer (some ⟨bs, 0, none⟩))
  | 8 => some (.slice (some ⟨g, 0, none⟩) nA cA)
  | 9 => some (.int .i64 (q : Int))
  | 10 => some (.pointer (some ⟨g, q, none⟩))
  | 11 => some (.slice rq dq dq)
  | 12 => some (.pointer (some ⟨bf, 0, none⟩))
  | 13 => some (.int .i64 (n : Int))
  | 16 => some (.pointer (some ⟨g, q, none⟩))
  | _ => none

def K36 (bs bf g n nA cA : Nat) (w : World) : Prop := w.cell? ⟨bs, 0, none⟩ = some (.slice (some ⟨g, 0, none⟩) nA cA) ∧ w.cell? ⟨bf, 0, none⟩ = some (.int .i64 (n : Int))
def P36a (wr w : World) : Prop := w = wr.drew
def P36b (wr : World) (n : Nat) (v : Value) (w : World) : Prop := v = .slice (some ⟨wr.heap.size, 0, none⟩) 1 1 ∧ w = wr.drew.alloc (.cells #[.int .i64 (n : Int)] 3)
def P36c (wr : World) (zz : FA) (q n : Nat) (v : Value) (w : World) : Prop := ∃ a' c', v = .slice a' (zz.d q + 1) c' ∧ Own (fun k => k = wr.heap.size + 1) 3 w a' (zz.d q + 1) c' (upd (fun i => .int .i64 (zz.N q i : Int)) (zz.d q) (.int .i64 (n : Int))) ∧ Ext (fun _ => False) wr w
def P36d (W : World) (tg : Nat → Nat) (wr : World) (bs : Nat) (zz : FA) (q n : Nat) (w : World) : Prop := ∃ a' c' tg', FM W tg' w bs (zz.r4 q a' c' n) ∧ Stp W tg wr tg' w

def val39 (bs nT cT nF cF : Nat) (aT aF : Option Addr) : Nat → Option Value
  | 0 => some (.pointer (some ⟨bs, 0, none⟩))
  | 1 => some (.pointer (some ⟨bs, 0, none⟩))
  | 2 => some (.pointer (some ⟨bs, 0, none⟩))
  | 3 => some (.pointer (some ⟨bs, 3, none⟩))
  | 4 => some (.slice aT nT cT)
  | 5 => some (.pointer (some ⟨bs, 0, none⟩))
  | 6 => some (.pointer (some ⟨bs, 0, none⟩))
  | 7 => some (.pointer (some ⟨bs, 6, none⟩))
  | 8 => some (.slice aF nF cF)
  | 9 => some (.int .i64 (nF : Int))
  | 10 => some (.int .i64 (-1 - (nF : Int)))
  | 13 => some (.pointer (some ⟨bs, 0, none⟩))
  | 14 => some (.pointer (some ⟨bs, 3, none⟩))
  | _ => none
def K39 (bs nF cF : Nat) (aF : Option Addr) (w : World) : Prop := w.cell? ⟨bs, 6, none⟩ = some (.slice aF nF cF)
def P39b (wr : World) (z : Int) (v : Value) (w : World) : Prop := v = .slice (some ⟨wr.heap.size, 0, none⟩) 1 1 ∧ w = wr.drew.alloc (.cells #[.int .i64 z] 3)
def P39c (W : World) (tg : Nat → Nat) (wr : World) (zz : FA) (z : Int) (v : Value) (w : World) : Prop := ∃ a' c', v = .slice a' (zz.L 3 + 1) c' ∧ Own (fun k => Tg W tg 3 k ∨ k = wr.heap.size + 1) 3 w a' (zz.L 3 + 1) c' (upd (zz.f 3) (zz.L 3) (.int .i64 z)) ∧ Ext (Tg W tg 3) (wr.drew.alloc (.cells #[.int .i64 z] 3)) w
def P39d (W : World) (tg : Nat → Nat) (wr : World) (bs : Nat) (zz : FA) (z : Int) (w : World) : Prop := ∃ a' c' tg', FM W tg' w bs (zz.ap 3 a' c' z false) ∧ Stp W tg wr tg' w

def val40 (bs nF cF : Nat) (aF : Option Addr) (n v u w : Nat) : Nat → Option Value
  | 0 => some (.pointer (some ⟨bs, 0, none⟩))
  | 1 => some (.pointer (some ⟨bs, 0, none⟩))
  | 2 => some (.pointer (some ⟨bs, 0, none⟩))
  | 3 => some (.pointer (some ⟨bs, 6, none⟩))
  | 4 => some (.slice aF nF cF)
  | 5 => some (.agg #[.int .i64 (n : Int), .int .i64 (v : Int), .int .i64 (u : Int), .int .i64 (w : Int)])
  | 8 => some (.pointer (some ⟨bs, 0, none⟩))
  | 9 => some (.pointer (some ⟨bs, 6, none⟩))
  | _ => none
structure K40 (bf n v u w : Nat) (W : World) : Prop where
  c0 : W.cell? ⟨bf, 0, none⟩ = some (.int .i64 (n : Int))
  c1 : W.cell? ⟨bf, 1, none⟩ = some (.int .i64 (v : Int))
  c2 : W.cell? ⟨bf, 2, none⟩ = some (.int .i64 (u : Int))
  c3 : W.cell? ⟨bf, 3, none⟩ = some (.int .i64 (w : Int))
theorem K40.ext {bf n v u w : Nat} {W W' : World} {T : Nat → Prop} (h : K40 bf n v u w W) (hx : Ext T W W') (hT : ¬ T bf) : K40 bf n v u w W' := ⟨cellX h.c0 hx hT, cellX h.c1 hx hT, cellX h.c2 hx hT, cellX h.c3 hx hT⟩
theorem K40.of {S : Nat → Prop} {bf n v u w iu iw dv : Nat} {W : World} (h : Own S 68 W (some ⟨bf, 0, none⟩) 4 4 (fvA n v u w iu iw dv)) (h1 : iu < dv) (h2 : iw < dv) : K40 bf n v u w W := by
  obtain ⟨g0, e0, _, _, c0, _⟩ := h.at 0 (by omega)
  obtain ⟨g1, e1, _, _, c1, _⟩ := h.at 1 (by omega)
  obtain ⟨g2, e2, _, _, c2, _⟩ := h.at 2 (by omega)
  obtain ⟨g3, e3, _, _, c3, _⟩ := h.at 3 (by omega)
  obtain rfl : bf = g0 := by simpa using e0
  obtain rfl : bf = g1 := by simpa using e1
  obtain rfl : bf = g2 := by simpa using e2
  obtain rfl : bf = g3 := by simpa using e3
  exact ⟨c0, c1, by rw [c2]; simp [fvA]; omega, by rw [c3]; simp [fvA]; omega⟩
def P40b (wr : World) (n v u w : Nat) (vv : Value) (W : World) : Prop := vv = .slice (some ⟨wr.heap.size, 0, none⟩) 1 1 ∧ W = wr.drew.alloc (.cells #[.int .i64 (n : Int), .int .i64 (v : Int), .int .i64 (u : Int), .int .i64 (w : Int)] 68)
def P40c (W : World) (tg : Nat → Nat) (wr : World) (zz : FA) (n v u w : Nat) (vv : Value) (W' : World) : Prop := ∃ a' c', vv = .slice a' (zz.L 6 + 1) c' ∧ Own4 (fun k => Tg W tg 6 k ∨ k = wr.heap.size + 1) 68 W' a' (zz.L 6 + 1) c' (upd zz.F (zz.L 6) (four n v u w)) ∧ Ext (Tg W tg 6) (wr.drew.alloc (.cells #[.int .i64 (n : Int), .int .i64 (v : Int), .int .i64 (u : Int), .int .i64 (w : Int)] 68)) W'
def P40d (W : World) (tg : Nat → Nat) (wr : World) (bs : Nat) (zz : FA) (n v u w : Nat) (W' : World) : Prop := ∃ a' c' tg', FM W tg' W' bs (zz.apF a' c' (four n v u w)) ∧ Stp W tg wr tg' W'

section
variable {W w0 : World} {tag : Nat → Nat} {bs : Nat} {x : FA}

set_option maxHeartbeats 16000000 in
set_option maxRecDepth 100000 in
theorem fold_any (h : FM W tag w0 bs x) (n v u w iu iw : Nat) (hin : FoldIn n x v u w iu iw) :
    Calls Try.prog 41 #[.pointer (some ⟨bs, 0, none⟩), .int .i64 v] w0 fun e w' => e = .returned (.tuple #[]) ∧ ∃ tag' x' nm mk y, FM W tag' w' bs x' ∧ Ext (fun k => W.heap.size ≤ k) w0 w' ∧ FoldR n x x' v u w nm mk y ∧ Made n x.d x.N (fun q => decide (q ≠ v) && decide (x.st q = 0)) u w nm mk := by
  have htwo := hin.two
  have hgr := hin.gr
  have hvn := htwo.hv
  have hn := hin.hn
  have hdv := hgr.dle v hvn
  have hl0 := hin.l0
  obtain ⟨ra, hra⟩ : ∃ r, x.R v = r := ⟨_, rfl⟩
  have HRa : Hid (x.R v = ra) := hra
  clear hra
  have htt0 := htwo.lt
  have htw0 := htwo.hw
  have hun : u < n := by rw [← htwo.eu]; exact hgr.lt v hvn iu (by omega)
  have hwn : w < n := by rw [← htwo.ew]; exact hgr.lt v hvn iw htw0
  have hdu := hgr.dle u hun
  have hdw := hgr.dle w hwn
  obtain ⟨ru, hru⟩ : ∃ r, x.R u = r := ⟨_, rfl⟩
  have HRu : Hid (x.R u = ru) := hru
  obtain ⟨rw', hrw⟩ : ∃ r, x.R w = r := ⟨_, rfl⟩
  have HRw : Hid (x.R w = rw') := hrw
  clear hru hrw
  have hf0 := h.sl 0 (by omega) (by omega) (by omega)
  obtain ⟨g0, eg0, hcr, hrow⟩ := h.row v (by omega)
  rw [eg0, hl0] at hf0
  rw [HRa.out] at hcr hrow
  have hvi : (v : Int) < (n : Int) := by omega
  have hvi0 : (0 : Int) ≤ (v : Int) := by omega
  go_enter Try.func41, Try.ntmps41
  obtain ⟨wA, hwA⟩ : ∃ y, y = w0.alloc (.cells #[.int .i64 (n : Int), .int .i64 (v : Int), .int .i64 (-1), .int .i64 0] 68) := ⟨_, rfl⟩
  have hwb : w0.heap.size < wA.heap.size := by rw [hwA]; simp
  have hxA : Ext (fun _ => False) w0 wA := by rw [hwA]; exact (Ext.refl _ _).alloc _
  have htA : ∀ k, k < w0.heap.size → upd tag w0.heap.size 14 k = tag k := fun k hk => upd_other _ _ _ _ (by omega)
  have hA : FM W (upd tag w0.heap.size 14) wA bs x := h.later hxA (fun _ _ _ h => h) htA
  have sA : Stp W tag w0 (upd tag w0.heap.size 14) wA := ⟨hxA.mono (fun _ _ h => h.elim), htA⟩
  have oA : Own (Tg W (upd tag w0.heap.size 14) 14) 68 wA (some ⟨w0.heap.size, 0, none⟩) 4 4 (fvA n v u w iu iw 0) := by
    rw [hwA]
    refine .inr ⟨w0.heap.size, _, rfl, ⟨upd_same _ _ _, h.siz⟩, heap_alloc_new w0 _, Nat.le_refl _, by unfold maxLen; omega, rfl, ?_⟩
    intro j hj
    match j, hj with
    | 0, _ => rfl
    | 1, _ => rfl
    | 2, _ => rfl
    | 3, _ => rfl
  have hf0A := hA.sl 0 (by omega) (by omega) (by omega)
  obtain ⟨g0', eg0', hcrA, hrowA⟩ := hA.row v (by omega)
  obtain rfl : g0 = g0' := by rw [eg0] at eg0'; simpa using eg0'
  rw [eg0, hl0, hwA] at hf0A
  rw [HRa.out, hwA] at hcrA
  clear eg0' hrowA hrow hcr
  go_wp2_with fail
  rw [← hwA]
  have HWA : Hid (wA = w0.alloc (.cells #[.int .i64 (n : Int), .int .i64 (v : Int), .int .i64 (-1), .int .i64 0] 68)) := hwA
  clear hf0A hcrA hf0 hwA
  go_loopw [30] (fun s30 wr => ∃ (i : Nat) (tg : Nat → Nat), i ≤ x.d v ∧ s30 = .int .i64 i ∧ FM W tg wr bs x ∧ Stp W tag w0 tg wr ∧ Own (Tg W tg 14) 68 wr (some ⟨w0.heap.size, 0, none⟩) 4 4 (fvA n v u w iu iw i)) (fun i _ => x.d v - (intOf i).toNat)
  case atStart => exact ⟨0, _, Nat.zero_le _, rfl, hA, sA, oA⟩
  case round =>
    clear hA sA oA
    obtain ⟨i, tg, hi, rfl, hm, hs, ho⟩ := hrel
    by_cases hil : i < x.d v
    · have hNn := hgr.lt v hvn i hil
      have hrw := hm.rows v (by omega)
      rw [HRa.out] at hrw
      obtain ⟨b2, off2, rfl, _, hc2⟩ := hrw i hil
      have hc1 := hm.sl 1 (by omega) (by omega) (by omega)
      have hl1 := hin.l1
      obtain ⟨g1, eg1, hcs, _, _⟩ := hm.stAt (x.N v i) (by omega)
      rw [eg1, hl1] at hc1
      dsimp only at hc2
      have htt := htwo.lt
      have htw := htwo.hw
      by_cases hz : x.st (x.N v i) = 0
      · rw [hz] at hcs
        rcases htwo.all i hil hz with hiu | hiw
        · -- u
          have hNu : x.N v i = u := by rw [hiu]; exact htwo.eu
          obtain ⟨g, eg, hS, hlt, hc, hf, hst⟩ := ho.at 2 (by omega)
          obtain rfl : w0.heap.size = g := by simpa using eg
          have hc' : wr.cell? ⟨w0.heap.size, 2, none⟩ = some (.int .i64 (-1)) := by rw [hc]; simp [fvA, hiu]
          have o2 := hst (.int .i64 (u : Int))
          have hx2 : Ext (fun k => k = w0.heap.size) wr (wr.setCell ⟨w0.heap.size, 2, none⟩ (.int .i64 (u : Int))) := (Ext.refl (fun k => k = w0.heap.size) _).setCell (fun _ => rfl) _
          have m2 : FM W tg (wr.setCell ⟨w0.heap.size, 2, none⟩ (.int .i64 (u : Int))) bs x := hm.later hx2 (fun k _ ht e => by subst e; have := hS.1; omega) (fun _ _ => rfl)
          have s2 : Stp W tag w0 tg (wr.setCell ⟨w0.heap.size, 2, none⟩ (.int .i64 (u : Int))) := ⟨hs.ext.trans hx2 (fun k hk e => by omega), hs.tg⟩
          have o3 : Own (Tg W tg 14) 68 (wr.setCell ⟨w0.heap.size, 2, none⟩ (.int .i64 (u : Int))) (some ⟨w0.heap.size, 0, none⟩) 4 4 (fvA n v u w iu iw (i + 1)) := by
            refine o2.congr (fun j hj => ?_)
            match j, hj with
            | 0, _ => rfl
            | 1, _ => rfl
            | 2, _ => simp [upd, fvA, hiu]
            | 3, _ => simp [upd, fvA, hiu, show iu ≤ iw by omega, show iu + 1 ≤ iw by omega]
          rw [hNu] at hc2 hcs hNn
          clear hc o2 hst hz hiu
          go_wp2_with fail
          go_roundw
          case rel => exact ⟨i + 1, tg, by omega, by go_num, m2, s2, o3⟩
          case measure => simp [intOf]; omega
        · -- w
          have hNw : x.N v i = w := by rw [hiw]; exact htwo.ew
          obtain ⟨g, eg, hS, hlt, hc, hf, hst⟩ := ho.at 3 (by omega)
          obtain rfl : w0.heap.size = g := by simpa using eg
          obtain ⟨g', eg', _, _, hc2', _, _⟩ := ho.at 2 (by omega)
          obtain rfl : w0.heap.size = g' := by simpa using eg'
          have hcu : wr.cell? ⟨w0.heap.size, 2, none⟩ = some (.int .i64 (u : Int)) := by rw [hc2']; simp [fvA, hiw, show ¬ iw ≤ iu by omega]
          have hu0 : decide ((u : Int) < 0) = false := by simp
          have o2 := hst (.int .i64 (w : Int))
          have hx2 : Ext (fun k => k = w0.heap.size) wr (wr.setCell ⟨w0.heap.size, 3, none⟩ (.int .i64 (w : Int))) := (Ext.refl (fun k => k = w0.heap.size) _).setCell (fun _ => rfl) _
          have m2 : FM W tg (wr.setCell ⟨w0.heap.size, 3, none⟩ (.int .i64 (w : Int))) bs x := hm.later hx2 (fun k _ ht e => by subst e; have := hS.1; omega) (fun _ _ => rfl)
          have s2 : Stp W tag w0 tg (wr.setCell ⟨w0.heap.size, 3, none⟩ (.int .i64 (w : Int))) := ⟨hs.ext.trans hx2 (fun k hk e => by omega), hs.tg⟩
          have o3 : Own (Tg W tg 14) 68 (wr.setCell ⟨w0.heap.size, 3, none⟩ (.int .i64 (w : Int))) (some ⟨w0.heap.size, 0, none⟩) 4 4 (fvA n v u w iu iw (i + 1)) := by
            refine o2.congr (fun j hj => ?_)
            match j, hj with
            | 0, _ => rfl
            | 1, _ => rfl
            | 2, _ => simp [upd, fvA, hiw, show ¬ iw ≤ iu by omega, show ¬ iw + 1 ≤ iu by omega]
            | 3, _ => simp [upd, fvA, hiw, show ¬ iw + 1 ≤ iw by omega]
          rw [hNw] at hc2 hcs hNn
          clear hc2' o2 hst hz hiw
          go_wp2_with fail
          go_roundw
          case rel => exact ⟨i + 1, tg, by omega, by go_num, m2, s2, o3⟩
          case measure => simp [intOf]; omega
      · have hz1 : (x.st (x.N v i) == 0) = false := by rw [beq_eq_false_iff_ne]; exact hz
        have hne : i ≠ iu ∧ i ≠ iw := ⟨fun e => hz (by rw [e, htwo.eu]; exact htwo.fu), fun e => hz (by rw [e, htwo.ew]; exact htwo.fw)⟩
        have o3 : Own (Tg W tg 14) 68 wr (some ⟨w0.heap.size, 0, none⟩) 4 4 (fvA n v u w iu iw (i + 1)) := by
          refine ho.congr (fun j hj => ?_)
          have e1 : (i ≤ iu) = (i + 1 ≤ iu) := by apply propext; omega
          have e2 : (i ≤ iw) = (i + 1 ≤ iw) := by apply propext; omega
          simp only [fvA, e1, e2]
        generalize x.st (x.N v i) = sv at *
        generalize x.N v i = r at *
        go_wp2_with fail
        go_roundw
        case rel => exact ⟨i + 1, tg, by omega, by go_num, hm, hs, o3⟩
        case measure => simp [intOf]; omega
    · obtain rfl : i = x.d v := by omega
      obtain ⟨gx, eg, hS, hlt, hc, hf, hst⟩ := ho.at 2 (by omega)
      obtain rfl : w0.heap.size = gx := by simpa using eg
      obtain ⟨g', eg', _, _, hc', _, _⟩ := ho.at 3 (by omega)
      obtain rfl : w0.heap.size = g' := by simpa using eg'
      have hcu : wr.cell? ⟨w0.heap.size, 2, none⟩ = some (.int .i64 (u : Int)) := by rw [hc]; simp [fvA]; omega
      have hcw : wr.cell? ⟨w0.heap.size, 3, none⟩ = some (.int .i64 (w : Int)) := by rw [hc']; simp [fvA]; omega
      have hf0 := hm.sl 0 (by omega) (by omega) (by omega)
      rw [eg0, hl0] at hf0
      obtain ⟨gu, egu, hrU, hrowU⟩ := hm.row u (by omega)
      obtain rfl : g0 = gu := by rw [eg0] at egu; simpa using egu
      obtain ⟨gw, egw, hrW, hrowW⟩ := hm.row w (by omega)
      obtain rfl : g0 = gw := by rw [eg0] at egw; simpa using egw
      rw [HRu.out] at hrU hrowU
      rw [HRw.out] at hrW hrowW
      obtain ⟨hc4, hf4, hput4⟩ := hm.steps
      have hui : (u : Int) < (n : Int) := by omega
      have hwi : (w : Int) < (n : Int) := by omega
      clear hc hc' hst hput4 egu egw eg eg'
      go_wp2_with fail
      go_quiet (fail)
      obtain ⟨m1, s1⟩ := (hm.drewN nq).steps.2.2 (wrap64 (x.s4 + (x.d u + x.d w)))
      have s1' := (hs.drewN nq).trans s1
      have o1 := (ho.drewN nq).stp s1 (by omega)
      go_wp2_with fail
      have hx1 := s1.ext
      have rU1 : Rd (Tg W tg 12) ((wr.drewN nq).setCell ⟨bs, 4, none⟩ (.int .i64 (wrap64 (x.s4 + (x.d u + x.d w))))) ru (x.d u) (fun k => .int .i64 (x.N u (0 + k) : Nat)) := by
        have := m1.rows u (by show u < x.L 0; omega)
        rw [HRu.out] at this
        exact this.congr (fun k _ => by rw [Nat.zero_add])
      have rW1 : Rd (Tg W tg 12) ((wr.drewN nq).setCell ⟨bs, 4, none⟩ (.int .i64 (wrap64 (x.s4 + (x.d u + x.d w))))) rw' (x.d w) (fun k => .int .i64 (x.N w (0 + k) : Nat)) := by
        have := m1.rows w (by show w < x.L 0; omega)
        rw [HRw.out] at this
        exact this.congr (fun k _ => by rw [Nat.zero_add])
      obtain ⟨xC, eC⟩ : ∃ y, y = ({ x with s4 := wrap64 (x.s4 + (x.d u + x.d w)) } : FA) := ⟨_, rfl⟩
      rw [← eC] at m1
      have EC : Hid (xC = { x with s4 := wrap64 (x.s4 + (x.d u + x.d w)) }) := eC
      have hfu := hin.full u hun
      have hfw := hin.full w hwn
      have HM0 : M2 W w0 bs w0.heap.size x xC n v u w iu iw tg ((wr.drewN nq).setCell ⟨bs, 4, none⟩ (.int .i64 (wrap64 (x.s4 + (x.d u + x.d w))))) 0 0 0 (x.d u) (x.d w) 0 (x.rc u) (x.rc w) (fun _ => 0) none ru rw' :=
        ⟨by omega, by omega, by omega, by omega, m1, s1'.ext.mono (fun k _ h => h.1), o1, rU1, rW1, Own.nil, MergeOk.zero _ _ _ _ _ _⟩
      have hCl1 : xC.L 1 = n := by rw [eC]; exact hin.l1
      have hCst : Hid (xC.st = x.st) := by rw [eC]; exact rfl
      clear hc4 hf4 hrU hrW hcu hcw hf0 m1 s1 s1' o1 rU1 rW1 eC hx1 hm hs ho hrowU hrowW hfu hfw
      go_loopw [7, 8, 9] (fun s7 s8 s9 wr => ∃ (i j nm mu mw cM cA cB : Nat) (tg mk : Nat → Nat) (aM A B : Option Addr), s7 = .slice aM nm cM ∧ s8 = .slice A mu cA ∧ s9 = .slice B mw cB ∧ M2 W w0 bs w0.heap.size x xC n v u w iu iw tg wr i j nm mu mw cM cA cB mk aM A B)
        (fun _ s8 s9 _ => sLen s8 + sLen s9)
      case atStart => exact ⟨0, 0, 0, _, _, 0, _, _, tg, _, none, _, _, rfl, rfl, rfl, HM0⟩
      case round =>
        clear HM0
        obtain ⟨i, j, nm, mu, mw, cM, cA, cB, tg, mk, aM, A, B, rfl, rfl, rfl, hM⟩ := hrel
        have hcu := hM.cu
        have hcw := hM.cw
        have heu := hM.eu
        have hew := hM.ew
        by_cases hmu : 0 < mu
        · obtain ⟨bU, oU, rfl, _, hcU⟩ := hM.ra 0 hmu
          simp only [Nat.add_zero] at hcU
          obtain ⟨k, rfl⟩ : ∃ k, mu = k + 1 := ⟨mu - 1, by omega⟩
          by_cases hmw : 0 < mw
          · obtain ⟨bW, oW, rfl, _, hcW⟩ := hM.rb 0 hmw
            simp only [Nat.add_zero] at hcW
            obtain ⟨k', rfl⟩ : ∃ k, mw = k + 1 := ⟨mw - 1, by omega⟩
            have e1 : (((k' : Int) + 1) == 0) = false := by rw [beq_eq_false_iff_ne]; omega
            have e1u : (((k : Int) + 1) == 0) = false := by rw [beq_eq_false_iff_ne]; omega
            rcases Nat.lt_trichotomy (x.N u i) (x.N w j) with hlt | heq | hgt
            · have e2 : decide ((x.N u i : Int) < (x.N w j : Int)) = true := by simp; omega
              go_upto_region 15 with fail
              go_quiet (fail)
              generalize nq = nqa at *
              go_upto_region 16 with fail
              go_quiet (fail)
              generalize nq = nqb at *
              have hqn : x.N u i < n := hgr.lt u hun i (by omega)
              have HQ := hM.mg.left (hgr.inc u hun) (hgr.inc w hwn) (by omega) (fun _ => hlt)
              obtain ⟨g1, eg1, hcs, _, _⟩ := hM.fm.stAt (x.N u i) (by rw [hCl1]; exact hqn)
              have hc1 := hM.fm.sl 1 (by omega) (by omega) (by omega)
              rw [eg1, hCl1] at hc1
              rw [hCst.out] at hcs
              have hra2 := ((hM.ra.tl hcu).congr (g := fun j => .int .i64 (x.N u (i + 1 + j) : Nat)) (fun j _ => congrArg (fun t => Value.int .i64 ((x.N u t : Nat) : Int)) (by omega : i + (j + 1) = i + 1 + j)))
              have hrb2 := hM.rb
              have HSK := (fun mg => hM.skip (i' := i + 1) (j' := j) (mu' := k) (mw' := k' + 1) (cA' := cA - 1) (cB' := cB) (by omega) (by omega) (by omega) (by omega) hra2 hrb2 mg)
              generalize hA2 : (if cA = 1 then (some ⟨bU, oU, none⟩ : Option Addr) else some ⟨bU, oU + 1, none⟩) = A2 at *
              have hoM := hM.o15
              have HM1 : Hid (M2 W w0 bs w0.heap.size x xC n v u w iu iw tg wr i j nm _ _ cM _ _ mk aM _ _) := hM
              have hnl := hM.mg.nle
              clear hM
              generalize hqq : x.N u i = r at *
              have HSK2 : Hid (∀ mg : MergeOk (x.N u) (x.N w) (x.d u) (x.d w) (okM x v) (i + 1) (j) nm mk, M2 W w0 bs w0.heap.size x xC n v u w iu iw tg wr (i + 1) (j) nm (k) (k' + 1) cM (cA - 1) (cB) mk aM _ _) := HSK
              clear HSK hqq
              by_cases hrv : r = v
              · have hok : okM x v r = false := by simp [okM, hrv]
                have HM3 := HSK2.out (HQ.2 hok)
                have e9 : ((r : Int) != (v : Int)) = false := by simp [hrv]
                clear HQ HM1 hoM HSK2 hok hrv hra2 hrb2
                go_wp2_with fail
                go_roundw
                case rel => exact ⟨_, _, _, _, _, _, _, _, _, _, _, _, _, rfl, rfl, rfl, HM3.dr _⟩
                case measure => simp [sLen]; try omega
              · have e9 : ((r : Int) != (v : Int)) = true := by simp; omega
                by_cases hz : x.st r = 0
                · have hok : okM x v r = true := by simp [okM, hrv, hz]
                  have HQ1 := HQ.1 hok
                  rw [hz] at hcs
                  clear HQ hrv hz hok
                  go_wp2_with (at_builtin; refine wpList_app _ rfl (.tmp 157) (.tmp 159) 24 rfl 3 (.int .i64 0) 8 Try.underlying24 info3 rfl (Tg W tg 15) aM nm cM (fun k => .int .i64 (mk k : Int)) rfl ((hoM.drewN _).alloc _) ⟨wr.heap.size, 0, none⟩ 1 (.int .i64 (r : Int)) rfl (cell_new1 _ _ _ _ (by simp)) rfl (by omega) (by omega) ?_)
                  intro a3 c3 w3 ho3 hx3 _
                  have HM3 := M2.put HM1.out (q := r) (i' := i + 1) (j' := j) (mu' := k) (mw' := k' + 1) (cA' := cA - 1) (cB' := cB) (by omega) (by omega) (by omega) (by omega) hra2 hrb2 ((Ext.refl _ wr).drewN _) ((Ext.refl _ _).alloc _) (by simp) ho3 hx3 HQ1
                  clear HM1 HSK2 HQ1 hoM ho3 hx3 hra2 hrb2
                  go_wp2_with fail
                  go_roundw
                  case rel => exact ⟨_, _, _, _, _, _, _, _, _, _, _, _, _, rfl, rfl, rfl, HM3⟩
                  case measure => simp [sLen]; try omega
                · have hok : okM x v r = false := by simp [okM, hz]
                  have HM3 := HSK2.out (HQ.2 hok)
                  have e8 : (x.st r == 0) = false := by rw [beq_eq_false_iff_ne]; exact hz
                  clear HQ HM1 hoM HSK2 hok hrv hz hra2 hrb2
                  generalize x.st r = sv at *
                  go_wp2_with fail
                  go_roundw
                  case rel => exact ⟨_, _, _, _, _, _, _, _, _, _, _, _, _, rfl, rfl, rfl, HM3.dr _⟩
                  case measure => simp [sLen]; try omega
            · have e2 : decide ((x.N u i : Int) < (x.N w j : Int)) = false := by simp; omega
              have e3 : decide ((x.N w j : Int) < (x.N u i : Int)) = false := by simp; omega
              have HEQ : Hid (x.N u i = x.N w j) := heq
              have hge1 : x.N w j ≤ x.N u i := by omega
              have hge2 : x.N u i ≤ x.N w j := by omega
              clear heq
              go_upto_region 15 with fail
              go_quiet (fail)
              generalize nq = nqa at *
              go_upto_region 17 with fail
              go_quiet (fail)
              generalize nq = nqb at *
              go_wp2_with fail
              go_quiet (fail)
              generalize nq = nqc at *
              have hqn : x.N u i < n := hgr.lt u hun i (by omega)
              have HQ := hM.mg.both (hgr.inc u hun) (hgr.inc w hwn) (by omega) (by omega) HEQ.out
              obtain ⟨g1, eg1, hcs, _, _⟩ := hM.fm.stAt (x.N u i) (by rw [hCl1]; exact hqn)
              have hc1 := hM.fm.sl 1 (by omega) (by omega) (by omega)
              rw [eg1, hCl1] at hc1
              rw [hCst.out] at hcs
              have hra2 := ((hM.ra.tl hcu).congr (g := fun j => .int .i64 (x.N u (i + 1 + j) : Nat)) (fun j _ => congrArg (fun t => Value.int .i64 ((x.N u t : Nat) : Int)) (by omega : i + (j + 1) = i + 1 + j)))
              have hrb2 := ((hM.rb.tl hcw).congr (g := fun k => .int .i64 (x.N w (j + 1 + k) : Nat)) (fun k _ => congrArg (fun t => Value.int .i64 ((x.N w t : Nat) : Int)) (by omega : j + (k + 1) = j + 1 + k)))
              have HSK := (fun mg => hM.skip (i' := i + 1) (j' := j + 1) (mu' := k) (mw' := k') (cA' := cA - 1) (cB' := cB - 1) (by omega) (by omega) (by omega) (by omega) hra2 hrb2 mg)
              generalize hA2 : (if cA = 1 then (some ⟨bU, oU, none⟩ : Option Addr) else some ⟨bU, oU + 1, none⟩) = A2 at *
              generalize hB2 : (if cB = 1 then (some ⟨bW, oW, none⟩ : Option Addr) else some ⟨bW, oW + 1, none⟩) = B2 at *
              have hoM := hM.o15
              have HM1 : Hid (M2 W w0 bs w0.heap.size x xC n v u w iu iw tg wr i j nm _ _ cM _ _ mk aM _ _) := hM
              have hnl := hM.mg.nle
              clear hM
              generalize hqq : x.N u i = r at *
              have HSK2 : Hid (∀ mg : MergeOk (x.N u) (x.N w) (x.d u) (x.d w) (okM x v) (i + 1) (j + 1) nm mk, M2 W w0 bs w0.heap.size x xC n v u w iu iw tg wr (i + 1) (j + 1) nm (k) (k') cM (cA - 1) (cB - 1) mk aM _ _) := HSK
              clear HSK hqq
              by_cases hrv : r = v
              · have hok : okM x v r = false := by simp [okM, hrv]
                have HM3 := HSK2.out (HQ.2 hok)
                have e9 : ((r : Int) != (v : Int)) = false := by simp [hrv]
                clear HQ HM1 hoM HSK2 hok hrv hra2 hrb2
                go_wp2_with fail
                go_roundw
                case rel => exact ⟨_, _, _, _, _, _, _, _, _, _, _, _, _, rfl, rfl, rfl, HM3.dr _⟩
                case measure => simp [sLen]; try omega
              · have e9 : ((r : Int) != (v : Int)) = true := by simp; omega
                by_cases hz : x.st r = 0
                · have hok : okM x v r = true := by simp [okM, hrv, hz]
                  have HQ1 := HQ.1 hok
                  rw [hz] at hcs
                  clear HQ hrv hz hok
                  go_wp2_with (at_builtin; refine wpList_app _ rfl (.tmp 157) (.tmp 159) 24 rfl 3 (.int .i64 0) 8 Try.underlying24 info3 rfl (Tg W tg 15) aM nm cM (fun k => .int .i64 (mk k : Int)) rfl ((hoM.drewN _).alloc _) ⟨wr.heap.size, 0, none⟩ 1 (.int .i64 (r : Int)) rfl (cell_new1 _ _ _ _ (by simp)) rfl (by omega) (by omega) ?_)
                  intro a3 c3 w3 ho3 hx3 _
                  have HM3 := M2.put HM1.out (q := r) (i' := i + 1) (j' := j + 1) (mu' := k) (mw' := k') (cA' := cA - 1) (cB' := cB - 1) (by omega) (by omega) (by omega) (by omega) hra2 hrb2 ((Ext.refl _ wr).drewN _) ((Ext.refl _ _).alloc _) (by simp) ho3 hx3 HQ1
                  clear HM1 HSK2 HQ1 hoM ho3 hx3 hra2 hrb2
                  go_wp2_with fail
                  go_roundw
                  case rel => exact ⟨_, _, _, _, _, _, _, _, _, _, _, _, _, rfl, rfl, rfl, HM3⟩
                  case measure => simp [sLen]; try omega
                · have hok : okM x v r = false := by simp [okM, hz]
                  have HM3 := HSK2.out (HQ.2 hok)
                  have e8 : (x.st r == 0) = false := by rw [beq_eq_false_iff_ne]; exact hz
                  clear HQ HM1 hoM HSK2 hok hrv hz hra2 hrb2
                  generalize x.st r = sv at *
                  go_wp2_with fail
                  go_roundw
                  case rel => exact ⟨_, _, _, _, _, _, _, _, _, _, _, _, _, rfl, rfl, rfl, HM3.dr _⟩
                  case measure => simp [sLen]; try omega
            · have e2 : decide ((x.N u i : Int) < (x.N w j : Int)) = false := by simp; omega
              have e3 : decide ((x.N w j : Int) < (x.N u i : Int)) = true := by simp; omega
              go_upto_region 15 with fail
              go_quiet (fail)
              generalize nq = nqa at *
              go_upto_region 17 with fail
              go_quiet (fail)
              generalize nq = nqb at *
              go_upto_region 18 with fail
              go_quiet (fail)
              generalize nq = nqc at *
              have hqn : x.N w j < n := hgr.lt w hwn j (by omega)
              have HQ := hM.mg.right (hgr.inc u hun) (hgr.inc w hwn) (by omega) (fun _ => hgt)
              obtain ⟨g1, eg1, hcs, _, _⟩ := hM.fm.stAt (x.N w j) (by rw [hCl1]; exact hqn)
              have hc1 := hM.fm.sl 1 (by omega) (by omega) (by omega)
              rw [eg1, hCl1] at hc1
              rw [hCst.out] at hcs
              have hra2 := hM.ra
              have hrb2 := ((hM.rb.tl hcw).congr (g := fun k => .int .i64 (x.N w (j + 1 + k) : Nat)) (fun k _ => congrArg (fun t => Value.int .i64 ((x.N w t : Nat) : Int)) (by omega : j + (k + 1) = j + 1 + k)))
              have HSK := (fun mg => hM.skip (i' := i) (j' := j + 1) (mu' := k + 1) (mw' := k') (cA' := cA) (cB' := cB - 1) (by omega) (by omega) (by omega) (by omega) hra2 hrb2 mg)
              generalize hB2 : (if cB = 1 then (some ⟨bW, oW, none⟩ : Option Addr) else some ⟨bW, oW + 1, none⟩) = B2 at *
              have hoM := hM.o15
              have HM1 : Hid (M2 W w0 bs w0.heap.size x xC n v u w iu iw tg wr i j nm _ _ cM _ _ mk aM _ _) := hM
              have hnl := hM.mg.nle
              clear hM
              generalize hqq : x.N w j = r at *
              have HSK2 : Hid (∀ mg : MergeOk (x.N u) (x.N w) (x.d u) (x.d w) (okM x v) (i) (j + 1) nm mk, M2 W w0 bs w0.heap.size x xC n v u w iu iw tg wr (i) (j + 1) nm (k + 1) (k') cM (cA) (cB - 1) mk aM _ _) := HSK
              clear HSK hqq
              by_cases hrv : r = v
              · have hok : okM x v r = false := by simp [okM, hrv]
                have HM3 := HSK2.out (HQ.2 hok)
                have e9 : ((r : Int) != (v : Int)) = false := by simp [hrv]
                clear HQ HM1 hoM HSK2 hok hrv hra2 hrb2
                go_wp2_with fail
                go_roundw
                case rel => exact ⟨_, _, _, _, _, _, _, _, _, _, _, _, _, rfl, rfl, rfl, HM3.dr _⟩
                case measure => simp [sLen]; try omega
              · have e9 : ((r : Int) != (v : Int)) = true := by simp; omega
                by_cases hz : x.st r = 0
                · have hok : okM x v r = true := by simp [okM, hrv, hz]
                  have HQ1 := HQ.1 hok
                  rw [hz] at hcs
                  clear HQ hrv hz hok
                  go_wp2_with (at_builtin; refine wpList_app _ rfl (.tmp 157) (.tmp 159) 24 rfl 3 (.int .i64 0) 8 Try.underlying24 info3 rfl (Tg W tg 15) aM nm cM (fun k => .int .i64 (mk k : Int)) rfl ((hoM.drewN _).alloc _) ⟨wr.heap.size, 0, none⟩ 1 (.int .i64 (r : Int)) rfl (cell_new1 _ _ _ _ (by simp)) rfl (by omega) (by omega) ?_)
                  intro a3 c3 w3 ho3 hx3 _
                  have HM3 := M2.put HM1.out (q := r) (i' := i) (j' := j + 1) (mu' := k + 1) (mw' := k') (cA' := cA) (cB' := cB - 1) (by omega) (by omega) (by omega) (by omega) hra2 hrb2 ((Ext.refl _ wr).drewN _) ((Ext.refl _ _).alloc _) (by simp) ho3 hx3 HQ1
                  clear HM1 HSK2 HQ1 hoM ho3 hx3 hra2 hrb2
                  go_wp2_with fail
                  go_roundw
                  case rel => exact ⟨_, _, _, _, _, _, _, _, _, _, _, _, _, rfl, rfl, rfl, HM3⟩
                  case measure => simp [sLen]; try omega
                · have hok : okM x v r = false := by simp [okM, hz]
                  have HM3 := HSK2.out (HQ.2 hok)
                  have e8 : (x.st r == 0) = false := by rw [beq_eq_false_iff_ne]; exact hz
                  clear HQ HM1 hoM HSK2 hok hrv hz hra2 hrb2
                  generalize x.st r = sv at *
                  go_wp2_with fail
                  go_roundw
                  case rel => exact ⟨_, _, _, _, _, _, _, _, _, _, _, _, _, rfl, rfl, rfl, HM3.dr _⟩
                  case measure => simp [sLen]; try omega
          · obtain rfl : mw = 0 := by omega
            have e1 : (((0 : Nat) : Int) == 0) = true := rfl
            go_upto_region 15 with fail
            go_quiet (fail)
            generalize nq = nqa at *
            go_upto_region 16 with fail
            go_quiet (fail)
            generalize nq = nqb at *
            have hqn : x.N u i < n := hgr.lt u hun i (by omega)
            have HQ := hM.mg.left (hgr.inc u hun) (hgr.inc w hwn) (by omega) (fun _ => by omega)
            obtain ⟨g1, eg1, hcs, _, _⟩ := hM.fm.stAt (x.N u i) (by rw [hCl1]; exact hqn)
            have hc1 := hM.fm.sl 1 (by omega) (by omega) (by omega)
            rw [eg1, hCl1] at hc1
            rw [hCst.out] at hcs
            have hra2 := ((hM.ra.tl hcu).congr (g := fun j => .int .i64 (x.N u (i + 1 + j) : Nat)) (fun j _ => congrArg (fun t => Value.int .i64 ((x.N u t : Nat) : Int)) (by omega : i + (j + 1) = i + 1 + j)))
            have hrb2 := hM.rb
            have HSK := (fun mg => hM.skip (i' := i + 1) (j' := j) (mu' := k) (mw' := 0) (cA' := cA - 1) (cB' := cB) (by omega) (by omega) (by omega) (by omega) hra2 hrb2 mg)
            generalize hA2 : (if cA = 1 then (some ⟨bU, oU, none⟩ : Option Addr) else some ⟨bU, oU + 1, none⟩) = A2 at *
            have hoM := hM.o15
            have HM1 : Hid (M2 W w0 bs w0.heap.size x xC n v u w iu iw tg wr i j nm _ _ cM _ _ mk aM _ _) := hM
            have hnl := hM.mg.nle
            clear hM
            generalize hqq : x.N u i = r at *
            have HSK2 : Hid (∀ mg : MergeOk (x.N u) (x.N w) (x.d u) (x.d w) (okM x v) (i + 1) (j) nm mk, M2 W w0 bs w0.heap.size x xC n v u w iu iw tg wr (i + 1) (j) nm (k) (0) cM (cA - 1) (cB) mk aM _ _) := HSK
            clear HSK hqq
            by_cases hrv : r = v
            · have hok : okM x v r = false := by simp [okM, hrv]
              have HM3 := HSK2.out (HQ.2 hok)
              have e9 : ((r : Int) != (v : Int)) = false := by simp [hrv]
              clear HQ HM1 hoM HSK2 hok hrv hra2 hrb2
              go_wp2_with fail
              go_roundw
              case rel => exact ⟨_, _, _, _, _, _, _, _, _, _, _, _, _, rfl, rfl, rfl, HM3.dr _⟩
              case measure => simp [sLen]; try omega
            · have e9 : ((r : Int) != (v : Int)) = true := by simp; omega
              by_cases hz : x.st r = 0
              · have hok : okM x v r = true := by simp [okM, hrv, hz]
                have HQ1 := HQ.1 hok
                rw [hz] at hcs
                clear HQ hrv hz hok
                go_wp2_with (at_builtin; refine wpList_app _ rfl (.tmp 157) (.tmp 159) 24 rfl 3 (.int .i64 0) 8 Try.underlying24 info3 rfl (Tg W tg 15) aM nm cM (fun k => .int .i64 (mk k : Int)) rfl ((hoM.drewN _).alloc _) ⟨wr.heap.size, 0, none⟩ 1 (.int .i64 (r : Int)) rfl (cell_new1 _ _ _ _ (by simp)) rfl (by omega) (by omega) ?_)
                intro a3 c3 w3 ho3 hx3 _
                have HM3 := M2.put HM1.out (q := r) (i' := i + 1) (j' := j) (mu' := k) (mw' := 0) (cA' := cA - 1) (cB' := cB) (by omega) (by omega) (by omega) (by omega) hra2 hrb2 ((Ext.refl _ wr).drewN _) ((Ext.refl _ _).alloc _) (by simp) ho3 hx3 HQ1
                clear HM1 HSK2 HQ1 hoM ho3 hx3 hra2 hrb2
                go_wp2_with fail
                go_roundw
                case rel => exact ⟨_, _, _, _, _, _, _, _, _, _, _, _, _, rfl, rfl, rfl, HM3⟩
                case measure => simp [sLen]; try omega
              · have hok : okM x v r = false := by simp [okM, hz]
                have HM3 := HSK2.out (HQ.2 hok)
                have e8 : (x.st r == 0) = false := by rw [beq_eq_false_iff_ne]; exact hz
                clear HQ HM1 hoM HSK2 hok hrv hz hra2 hrb2
                generalize x.st r = sv at *
                go_wp2_with fail
                go_roundw
                case rel => exact ⟨_, _, _, _, _, _, _, _, _, _, _, _, _, rfl, rfl, rfl, HM3.dr _⟩
                case measure => simp [sLen]; try omega
        · obtain rfl : mu = 0 := by omega
          by_cases hmw : 0 < mw
          · obtain ⟨bW, oW, rfl, _, hcW⟩ := hM.rb 0 hmw
            simp only [Nat.add_zero] at hcW
            obtain ⟨k', rfl⟩ : ∃ k, mw = k + 1 := ⟨mw - 1, by omega⟩
            have e1 : (((k' : Int) + 1) == 0) = false := by rw [beq_eq_false_iff_ne]; omega
            have e1u : (((0 : Nat) : Int) == 0) = true := rfl
            go_upto_region 15 with fail
            go_quiet (fail)
            generalize nq = nqa at *
            go_upto_region 17 with fail
            go_quiet (fail)
            generalize nq = nqb at *
            go_upto_region 18 with fail
            go_quiet (fail)
            generalize nq = nqc at *
            have hqn : x.N w j < n := hgr.lt w hwn j (by omega)
            have HQ := hM.mg.right (hgr.inc u hun) (hgr.inc w hwn) (by omega) (fun _ => by omega)
            obtain ⟨g1, eg1, hcs, _, _⟩ := hM.fm.stAt (x.N w j) (by rw [hCl1]; exact hqn)
            have hc1 := hM.fm.sl 1 (by omega) (by omega) (by omega)
            rw [eg1, hCl1] at hc1
            rw [hCst.out] at hcs
            have hra2 := hM.ra
            have hrb2 := ((hM.rb.tl hcw).congr (g := fun k => .int .i64 (x.N w (j + 1 + k) : Nat)) (fun k _ => congrArg (fun t => Value.int .i64 ((x.N w t : Nat) : Int)) (by omega : j + (k + 1) = j + 1 + k)))
            have HSK := (fun mg => hM.skip (i' := i) (j' := j + 1) (mu' := 0) (mw' := k') (cA' := cA) (cB' := cB - 1) (by omega) (by omega) (by omega) (by omega) hra2 hrb2 mg)
            generalize hB2 : (if cB = 1 then (some ⟨bW, oW, none⟩ : Option Addr) else some ⟨bW, oW + 1, none⟩) = B2 at *
            have hoM := hM.o15
            have HM1 : Hid (M2 W w0 bs w0.heap.size x xC n v u w iu iw tg wr i j nm _ _ cM _ _ mk aM _ _) := hM
            have hnl := hM.mg.nle
            clear hM
            generalize hqq : x.N w j = r at *
            have HSK2 : Hid (∀ mg : MergeOk (x.N u) (x.N w) (x.d u) (x.d w) (okM x v) (i) (j + 1) nm mk, M2 W w0 bs w0.heap.size x xC n v u w iu iw tg wr (i) (j + 1) nm (0) (k') cM (cA) (cB - 1) mk aM _ _) := HSK
            clear HSK hqq
            by_cases hrv : r = v
            · have hok : okM x v r = false := by simp [okM, hrv]
              have HM3 := HSK2.out (HQ.2 hok)
              have e9 : ((r : Int) != (v : Int)) = false := by simp [hrv]
              clear HQ HM1 hoM HSK2 hok hrv hra2 hrb2
              go_wp2_with fail
              go_roundw
              case rel => exact ⟨_, _, _, _, _, _, _, _, _, _, _, _, _, rfl, rfl, rfl, HM3.dr _⟩
              case measure => simp [sLen]; try omega
            · have e9 : ((r : Int) != (v : Int)) = true := by simp; omega
              by_cases hz : x.st r = 0
              · have hok : okM x v r = true := by simp [okM, hrv, hz]
                have HQ1 := HQ.1 hok
                rw [hz] at hcs
                clear HQ hrv hz hok
                go_wp2_with (at_builtin; refine wpList_app _ rfl (.tmp 157) (.tmp 159) 24 rfl 3 (.int .i64 0) 8 Try.underlying24 info3 rfl (Tg W tg 15) aM nm cM (fun k => .int .i64 (mk k : Int)) rfl ((hoM.drewN _).alloc _) ⟨wr.heap.size, 0, none⟩ 1 (.int .i64 (r : Int)) rfl (cell_new1 _ _ _ _ (by simp)) rfl (by omega) (by omega) ?_)
                intro a3 c3 w3 ho3 hx3 _
                have HM3 := M2.put HM1.out (q := r) (i' := i) (j' := j + 1) (mu' := 0) (mw' := k') (cA' := cA) (cB' := cB - 1) (by omega) (by omega) (by omega) (by omega) hra2 hrb2 ((Ext.refl _ wr).drewN _) ((Ext.refl _ _).alloc _) (by simp) ho3 hx3 HQ1
                clear HM1 HSK2 HQ1 hoM ho3 hx3 hra2 hrb2
                go_wp2_with fail
                go_roundw
                case rel => exact ⟨_, _, _, _, _, _, _, _, _, _, _, _, _, rfl, rfl, rfl, HM3⟩
                case measure => simp [sLen]; try omega
              · have hok : okM x v r = false := by simp [okM, hz]
                have HM3 := HSK2.out (HQ.2 hok)
                have e8 : (x.st r == 0) = false := by rw [beq_eq_false_iff_ne]; exact hz
                clear HQ HM1 hoM HSK2 hok hrv hz hra2 hrb2
                generalize x.st r = sv at *
                go_wp2_with fail
                go_roundw
                case rel => exact ⟨_, _, _, _, _, _, _, _, _, _, _, _, _, rfl, rfl, rfl, HM3.dr _⟩
                case measure => simp [sLen]; try omega
          · obtain rfl : mw = 0 := by omega
            obtain rfl : i = x.d u := by omega
            obtain rfl : j = x.d w := by omega
            have hMade : Made n x.d x.N (okM x v) u w nm mk := hM.mg.made
            have hnl := hM.mg.nle
            obtain ⟨gx, eg, _, _, hc, _, _⟩ := hM.o14.at 2 (by omega)
            obtain rfl : w0.heap.size = gx := by simpa using eg
            obtain ⟨g', eg', _, _, hc', _, _⟩ := hM.o14.at 3 (by omega)
            obtain rfl : w0.heap.size = g' := by simpa using eg'
            have hcu : wr.cell? ⟨w0.heap.size, 2, none⟩ = some (.int .i64 (u : Int)) := by rw [hc]; simp [fvA]; omega
            have hcw : wr.cell? ⟨w0.heap.size, 3, none⟩ = some (.int .i64 (w : Int)) := by rw [hc']; simp [fvA]; omega
            clear hc hc' eg eg'
            obtain ⟨wB, hwB⟩ : ∃ y, y = wr.alloc (.cells #[.int .i64 (v : Int), .int .i64 (u : Int), .int .i64 (w : Int)] 3) := ⟨_, rfl⟩
            have hxB : Ext (fun _ => False) wr wB := by rw [hwB]; exact (Ext.refl _ _).alloc _
            have htB : ∀ k, k < wr.heap.size → upd tg wr.heap.size 16 k = tg k := fun k hk => upd_other _ _ _ _ (by omega)
            have HM3 : M3 W w0 bs w0.heap.size wr.heap.size x xC n v u w iu iw nm cM mk aM (upd tg wr.heap.size 16) wB 0 xC := by
              refine ⟨hM.fm.later hxB (fun _ _ _ h => h) htB, hM.ext.trans hxB (fun _ _ h => h.elim), hM.o14.tagged hxB (fun _ _ h => h) htB, hM.o15.tagged hxB (fun _ _ h => h) htB, ?_, rfl⟩
              rw [hwB]
              refine .inr ⟨wr.heap.size, _, rfl, ⟨upd_same _ _ _, hM.fm.siz⟩, heap_alloc_new wr _, Nat.le_refl _, by unfold maxLen; omega, rfl, ?_⟩
              intro j hj
              match j, hj with
              | 0, _ => rfl
              | 1, _ => rfl
              | 2, _ => rfl
            clear hM
            go_wp2_with fail
            rw [← hwB]
            have hwBs : wr.heap.size < wB.heap.size := by rw [hwB]; simp
            clear hwB hxB htB hcu hcw
            generalize wr.heap.size = b16 at *
            have hCL : Hid (xC.L = x.L) := by rw [EC.out]; exact rfl
            have hCd : Hid (xC.d = x.d) := by rw [EC.out]; exact rfl
            have hCN : Hid (xC.N = x.N) := by rw [EC.out]; exact rfl
            go_loopw [168] (fun s168 wr => ∃ (k : Nat) (tg : Nat → Nat) (y : FA), k ≤ 3 ∧ s168 = .int .i64 k ∧ M3 W w0 bs w0.heap.size b16 x xC n v u w iu iw nm cM mk aM tg wr k y) (fun i _ => 3 - (intOf i).toNat)
            case atStart => exact ⟨0, _, xC, by omega, rfl, HM3⟩
            case round =>
              clear HM3
              obtain ⟨k, tg, y, hk, rfl, hM⟩ := hrel
              by_cases hkl : k < 3
              · obtain ⟨g16, eg16, _, _, hc16, _, _⟩ := hM.o16.at k hkl
                obtain rfl : b16 = g16 := by simpa using eg16
                have hG := hM.tk.g
                have hpn : three v u w k < n := three_all (P := fun p => p < n) hvn hun hwn k
                have hL : ∀ j, j ≠ 3 → j ≠ 7 → y.L j = x.L j := fun j h3 h7 => by rw [hG.L j h3 h7, hCL.out]
                have q0 : y.L 0 = n := (hL 0 (by omega) (by omega)).trans hl0
                have q1 : y.L 1 = n := (hL 1 (by omega) (by omega)).trans hin.l1
                have q2 : y.L 2 = n := (hL 2 (by omega) (by omega)).trans hin.l2
                have q8 : y.L 8 = n := (hL 8 (by omega) (by omega)).trans hin.l8
                have qd : y.d (three v u w k) ≤ 131072 := by rw [hG.d, hCd.out]; exact hgr.dle _ hpn
                have qN : ∀ i, i < y.d (three v u w k) → y.N (three v u w k) i < n := by rw [hG.d, hG.N, hCd.out, hCN.out]; exact hgr.lt _ hpn
                have q3 : y.L 3 ≤ 900000000 := by rw [hM.tk.l3, hCL.out]; have := hin.l3; omega
                have q7 : y.L 7 ≤ 900000000 := by
                  have h1 := hM.tk.l7 (fun k => by rw [hCd.out]; exact three_all (P := fun p => x.d p ≤ 131072) hdv hdu hdw k)
                  rw [hCL.out] at h1
                  have := hin.l7
                  omega
                have QN : Hid (∀ i, i < y.d (three v u w k) → y.N (three v u w k) i < n) := qN
                have HMh : Hid (M3 W w0 bs w0.heap.size b16 x xC n v u w iu iw nm cM mk aM tg wr k y) := hM
                have HTk : Hid (three v u w k = three v u w k) := rfl
                clear qN hG hL eg16
                have hfm := hM.fm
                clear hM
                generalize hpk : three v u w k = p at *
                have HPk : Hid (three v u w k = p) := hpk
                clear hpk HTk
                go_wp2_with fail
                refine (take_any hfm n p hpn q0 q1 q2 q8 hn qd QN.out q7 q3).mono ?_
                rintro e w6 ⟨rfl, tag6, y3, m6, s6, hT6⟩
                have HM6 : M3 W w0 bs w0.heap.size b16 x xC n v u w iu iw nm cM mk aM tag6 w6 (k + 1) y3 := by
                  have hM := HMh.out
                  exact ⟨m6, hM.ext.trans s6.ext (fun k _ h => h.1), hM.o14.stp s6 (by omega), hM.o15.stp s6 (by omega), hM.o16.stp s6 (by omega), y, hM.tk, by rw [HPk.out]; exact hT6⟩
                clear HMh hT6 s6 m6 hfm hc16 QN
                go_wp2_with fail
                go_roundw
                case rel => exact ⟨k + 1, tag6, y3, by omega, by go_num, HM6⟩
                case measure => simp [intOf]; omega
              · obtain rfl : k = 3 := by omega
                have hG := hM.tk.g
                have hLy : ∀ j, j ≠ 3 → j ≠ 7 → y.L j = x.L j := fun j h3 h7 => by rw [hG.L j h3 h7, hCL.out]
                have Q0 : Hid (y.L 0 = n) := (hLy 0 (by omega) (by omega)).trans hin.l0
                have Q1 : Hid (y.L 1 = n) := (hLy 1 (by omega) (by omega)).trans hin.l1
                have Q2 : Hid (y.L 2 = n) := (hLy 2 (by omega) (by omega)).trans hin.l2
                have Q8 : Hid (y.L 8 = n) := (hLy 8 (by omega) (by omega)).trans hin.l8
                have B9 : y.L 9 ≤ 131072 := by rw [hLy 9 (by omega) (by omega)]; exact hin.l9
                have B10 : y.L 10 ≤ 1048576 := by rw [hLy 10 (by omega) (by omega)]; exact hin.l10
                have B11 : y.L 11 ≤ 131072 := by rw [hLy 11 (by omega) (by omega)]; exact hin.l11
                have B6 : y.L 6 ≤ 131072 := by rw [hLy 6 (by omega) (by omega)]; exact hin.l6
                have B0 : y.L 0 ≤ 131072 := by rw [Q0.out]; exact hn
                have B1 : y.L 1 ≤ 131072 := by rw [Q1.out]; exact hn
                have B2 : y.L 2 ≤ 131072 := by rw [Q2.out]; exact hn
                have B8 : y.L 8 ≤ 131072 := by rw [Q8.out]; exact hn
                have B3 : y.L 3 ≤ 900000000 := by rw [hM.tk.l3, hCL.out]; have := hin.l3; omega
                have B7 : y.L 7 ≤ 900000000 := by
                  have h1 := hM.tk.l7 (fun k => by rw [hCd.out]; exact three_all (P := fun p => x.d p ≤ 131072) hdv hdu hdw k)
                  rw [hCL.out] at h1
                  have := hin.l7
                  omega
                have HLy : Hid (∀ j, j ≠ 3 → j ≠ 7 → y.L j = x.L j) := hLy
                have HG : Hid (EqG xC y) := hG
                have HTK : Hid (TK (three v u w) xC 3 y) := hM.tk
                have m0 : FM W (reT tg) wr bs y := hM.fm.retag
                have o0 : Own (Tg W (reT tg) 14) 68 wr (some ⟨w0.heap.size, 0, none⟩) 4 4 (fvA n v u w iu iw (x.d v)) := hM.o14.mono (fun k hk => hk.re (by omega))
                have r0 : Rd (Tg W (reT tg) 12) wr aM nm (fun i => .int .i64 (mk i : Int)) := hM.o15.rd.mono (fun k hk => hk.re15)
                have x0 := hM.ext
                clear hM hLy hG
                generalize reT tg = t0 at *
                have hc0 := m0.sl 0 (by omega) (by omega) (by omega)
                have hT0 := m0.tab 0 tab0
                go_wp2_with (at_builtin; refine wpList_app _ rfl (.tmp 180) (.tmp 182) 22 rfl 24 (.slice none 0 0) 24 Try.underlying22 info24 rfl (Tg W t0 0) (y.a 0) (y.L 0) (y.C 0) (y.f 0) rfl (hT0.alloc _) ⟨wr.heap.size, 0, none⟩ 1 (.slice aM nm cM) rfl (cell_new1 _ _ _ _ (by simp)) rfl (by omega) (by omega) ?_)
                intro a1 c1 w1 ho hx _
                obtain ⟨hd1, hd2, m1, s1⟩ := m0.ap0 ((Ext.refl _ _).alloc _) (by simp) ho hx r0
                have x1 := x0.trans s1.ext (fun k _ h => h.1)
                have o1 := o0.stp s1 (by omega)
                obtain ⟨z1, e1⟩ : ∃ z, z = y.ap0 a1 c1 aM nm cM mk := ⟨_, rfl⟩
                rw [← e1] at m1
                have E1 : Hid (z1 = y.ap0 a1 c1 aM nm cM mk) := e1
                have B1_1 : z1.L 1 = y.L 1 := by rw [e1]; exact ap0_L _ _ _ _ _ _ _ _ (by decide)
                have B2_1 : z1.L 2 = y.L 2 := by rw [e1]; exact ap0_L _ _ _ _ _ _ _ _ (by decide)
                have B3_1 : z1.L 3 = y.L 3 := by rw [e1]; exact ap0_L _ _ _ _ _ _ _ _ (by decide)
                have B6_1 : z1.L 6 = y.L 6 := by rw [e1]; exact ap0_L _ _ _ _ _ _ _ _ (by decide)
                have B7_1 : z1.L 7 = y.L 7 := by rw [e1]; exact ap0_L _ _ _ _ _ _ _ _ (by decide)
                have B8_1 : z1.L 8 = y.L 8 := by rw [e1]; exact ap0_L _ _ _ _ _ _ _ _ (by decide)
                have B9_1 : z1.L 9 = y.L 9 := by rw [e1]; exact ap0_L _ _ _ _ _ _ _ _ (by decide)
                have B10_1 : z1.L 10 = y.L 10 := by rw [e1]; exact ap0_L _ _ _ _ _ _ _ _ (by decide)
                have B11_1 : z1.L 11 = y.L 11 := by rw [e1]; exact ap0_L _ _ _ _ _ _ _ _ (by decide)
                have D1_1 : z1.L 1 ≤ 900000000 := by omega
                have D2_1 : z1.L 2 ≤ 900000000 := by omega
                have D3_1 : z1.L 3 ≤ 900000000 := by omega
                have D6_1 : z1.L 6 ≤ 900000000 := by omega
                have D7_1 : z1.L 7 ≤ 900000000 := by omega
                have D8_1 : z1.L 8 ≤ 900000000 := by omega
                have D9_1 : z1.L 9 ≤ 900000000 := by omega
                have D10_1 : z1.L 10 ≤ 900000000 := by omega
                have D11_1 : z1.L 11 ≤ 900000000 := by omega
                have H1_1 : Hid (z1.L 1 = y.L 1) := B1_1
                have H2_1 : Hid (z1.L 2 = y.L 2) := B2_1
                have H3_1 : Hid (z1.L 3 = y.L 3) := B3_1
                have H6_1 : Hid (z1.L 6 = y.L 6) := B6_1
                have H7_1 : Hid (z1.L 7 = y.L 7) := B7_1
                have H8_1 : Hid (z1.L 8 = y.L 8) := B8_1
                have H9_1 : Hid (z1.L 9 = y.L 9) := B9_1
                have H10_1 : Hid (z1.L 10 = y.L 10) := B10_1
                have H11_1 : Hid (z1.L 11 = y.L 11) := B11_1
                clear B1_1 B2_1 B3_1 B6_1 B7_1 B8_1 B9_1 B10_1 B11_1 e1 m0 hT0 hc0 s1 ho hx x0 o0 r0
                go_upto_region 27 with fail
                generalize w1.setCell ⟨bs, 0, none⟩ (.slice a1 (y.L 0 + 1) c1) = v1 at *
                generalize upd t0 _ 0 = t1 at *
                have hc := m1.sl 1 (by omega) (by omega) (by omega)
                have hT := m1.tab 1 tab1
                have hfz := m1.frz 1 (by omega)
                go_wp2_with (at_builtin; refine wpList_app _ rfl (.tmp 190) (.tmp 191) 23 rfl 39 (.int .i8 0) 1 Try.underlying23 info39 rfl (Tg W t1 1) (z1.a 1) (z1.L 1) (z1.C 1) (z1.f 1) rfl (hT.alloc _) ⟨v1.heap.size, 0, none⟩ 1 (.int .i8 0) rfl (cell_new1 _ _ _ _ (by simp)) rfl (by omega) (by omega) ?_)
                intro a2 c2 w2 ho hx _
                obtain ⟨hd1, hd2, m2, s2⟩ := m1.ap 1 tab1 (by omega) 0 false ((Ext.refl _ _).alloc _) (by simp) ho hx
                have x2 := x1.trans s2.ext (fun k _ h => h.1)
                have o2 := o1.stp s2 (by omega)
                obtain ⟨z2, e1⟩ : ∃ z, z = z1.ap 1 a2 c2 0 false := ⟨_, rfl⟩
                rw [← e1] at m2
                have E2 : Hid (z2 = z1.ap 1 a2 c2 0 false) := e1
                have D2_2 : z2.L 2 ≤ 900000000 := by rw [e1, ap_L _ _ _ _ _ _ _ (by decide)]; exact D2_1
                have D3_2 : z2.L 3 ≤ 900000000 := by rw [e1, ap_L _ _ _ _ _ _ _ (by decide)]; exact D3_1
                have D6_2 : z2.L 6 ≤ 900000000 := by rw [e1, ap_L _ _ _ _ _ _ _ (by decide)]; exact D6_1
                have D7_2 : z2.L 7 ≤ 900000000 := by rw [e1, ap_L _ _ _ _ _ _ _ (by decide)]; exact D7_1
                have D8_2 : z2.L 8 ≤ 900000000 := by rw [e1, ap_L _ _ _ _ _ _ _ (by decide)]; exact D8_1
                have D9_2 : z2.L 9 ≤ 900000000 := by rw [e1, ap_L _ _ _ _ _ _ _ (by decide)]; exact D9_1
                have D10_2 : z2.L 10 ≤ 900000000 := by rw [e1, ap_L _ _ _ _ _ _ _ (by decide)]; exact D10_1
                have D11_2 : z2.L 11 ≤ 900000000 := by rw [e1, ap_L _ _ _ _ _ _ _ (by decide)]; exact D11_1
                clear e1 m1 s2 ho hx x1 o1 hc hT hfz D2_1 D3_1 D6_1 D7_1 D8_1 D9_1 D10_1 D11_1 D1_1
                go_upto_region 28 with fail
                generalize w2.setCell ⟨bs, 1, none⟩ (.slice a2 (z1.L 1 + 1) c2) = v2 at *
                generalize upd t1 _ 1 = t2 at *
                have hc := m2.sl 2 (by omega) (by omega) (by omega)
                have hT := m2.tab 2 tab2
                have hfz := m2.frz 2 (by omega)
                go_wp2_with (at_builtin; refine wpList_app _ rfl (.tmp 199) (.tmp 202) 24 rfl 3 (.int .i64 0) 8 Try.underlying24 info3 rfl (Tg W t2 2) (z2.a 2) (z2.L 2) (z2.C 2) (z2.f 2) rfl (hT.alloc _) ⟨v2.heap.size, 0, none⟩ 1 (.int .i64 (nm : Int)) rfl (cell_new1 _ _ _ _ (by simp)) rfl (by omega) (by omega) ?_)
                intro a3 c3 w3 ho hx _
                obtain ⟨hd1, hd2, m3, s3⟩ := m2.ap 2 tab2 (by omega) (nm : Int) false ((Ext.refl _ _).alloc _) (by simp) ho hx
                have x3 := x2.trans s3.ext (fun k _ h => h.1)
                have o3 := o2.stp s3 (by omega)
                obtain ⟨z3, e1⟩ : ∃ z, z = z2.ap 2 a3 c3 (nm : Int) false := ⟨_, rfl⟩
                rw [← e1] at m3
                have E3 : Hid (z3 = z2.ap 2 a3 c3 (nm : Int) false) := e1
                have D3_3 : z3.L 3 ≤ 900000000 := by rw [e1, ap_L _ _ _ _ _ _ _ (by decide)]; exact D3_2
                have D6_3 : z3.L 6 ≤ 900000000 := by rw [e1, ap_L _ _ _ _ _ _ _ (by decide)]; exact D6_2
                have D7_3 : z3.L 7 ≤ 900000000 := by rw [e1, ap_L _ _ _ _ _ _ _ (by decide)]; exact D7_2
                have D8_3 : z3.L 8 ≤ 900000000 := by rw [e1, ap_L _ _ _ _ _ _ _ (by decide)]; exact D8_2
                have D9_3 : z3.L 9 ≤ 900000000 := by rw [e1, ap_L _ _ _ _ _ _ _ (by decide)]; exact D9_2
                have D10_3 : z3.L 10 ≤ 900000000 := by rw [e1, ap_L _ _ _ _ _ _ _ (by decide)]; exact D10_2
                have D11_3 : z3.L 11 ≤ 900000000 := by rw [e1, ap_L _ _ _ _ _ _ _ (by decide)]; exact D11_2
                clear e1 m2 s3 ho hx x2 o2 hc hT hfz D3_2 D6_2 D7_2 D8_2 D9_2 D10_2 D11_2 D2_2
                go_upto_region 29 with fail
                generalize w3.setCell ⟨bs, 2, none⟩ (.slice a3 (z2.L 2 + 1) c3) = v3 at *
                generalize upd t2 _ 2 = t3 at *
                have hc := m3.sl 8 (by omega) (by omega) (by omega)
                have hT := m3.tab 8 tab8
                have hfz := m3.frz 8 (by omega)
                go_wp2_with (at_builtin; refine wpList_app _ rfl (.tmp 210) (.tmp 211) 26 rfl 4 (.bool false) 1 Try.underlying26 info4 rfl (Tg W t3 8) (z3.a 8) (z3.L 8) (z3.C 8) (z3.f 8) rfl (hT.alloc _) ⟨v3.heap.size, 0, none⟩ 1 (.bool false) rfl (cell_new1 _ _ _ _ (by simp)) rfl (by omega) (by omega) ?_)
                intro a4 c4 w4 ho hx _
                obtain ⟨hd1, hd2, m4, s4⟩ := m3.ap 8 tab8 (by omega) 0 false ((Ext.refl _ _).alloc _) (by simp) ho hx
                have x4 := x3.trans s4.ext (fun k _ h => h.1)
                have o4 := o3.stp s4 (by omega)
                obtain ⟨z4, e1⟩ : ∃ z, z = z3.ap 8 a4 c4 0 false := ⟨_, rfl⟩
                rw [← e1] at m4
                have E4 : Hid (z4 = z3.ap 8 a4 c4 0 false) := e1
                have D3_4 : z4.L 3 ≤ 900000000 := by rw [e1, ap_L _ _ _ _ _ _ _ (by decide)]; exact D3_3
                have D6_4 : z4.L 6 ≤ 900000000 := by rw [e1, ap_L _ _ _ _ _ _ _ (by decide)]; exact D6_3
                have D7_4 : z4.L 7 ≤ 900000000 := by rw [e1, ap_L _ _ _ _ _ _ _ (by decide)]; exact D7_3
                have D9_4 : z4.L 9 ≤ 900000000 := by rw [e1, ap_L _ _ _ _ _ _ _ (by decide)]; exact D9_3
                have D10_4 : z4.L 10 ≤ 900000000 := by rw [e1, ap_L _ _ _ _ _ _ _ (by decide)]; exact D10_3
                have D11_4 : z4.L 11 ≤ 900000000 := by rw [e1, ap_L _ _ _ _ _ _ _ (by decide)]; exact D11_3
                clear e1 m3 s4 ho hx x3 o3 hc hT hfz D3_3 D6_3 D7_3 D9_3 D10_3 D11_3 D8_3
                go_upto_region 30 with fail
                generalize w4.setCell ⟨bs, 8, none⟩ (.slice a4 (z3.L 8 + 1) c4) = v4 at *
                generalize upd t3 _ 8 = t4 at *
                have hc := m4.sl 9 (by omega) (by omega) (by omega)
                have hT := m4.tab 9 tab9
                have hfz := m4.frz 9 (by omega)
                go_wp2_with (at_builtin; refine wpList_app _ rfl (.tmp 219) (.tmp 220) 24 rfl 3 (.int .i64 0) 8 Try.underlying24 info3 rfl (Tg W t4 9) (z4.a 9) (z4.L 9) (z4.C 9) (z4.f 9) rfl (hT.alloc _) ⟨v4.heap.size, 0, none⟩ 1 (.int .i64 (-1)) rfl (cell_new1 _ _ _ _ (by simp)) rfl (by omega) (by omega) ?_)
                intro a5 c5 w5 ho hx _
                obtain ⟨hd1, hd2, m5, s5⟩ := m4.ap 9 tab9 (by omega) (-1) false ((Ext.refl _ _).alloc _) (by simp) ho hx
                have x5 := x4.trans s5.ext (fun k _ h => h.1)
                have o5 := o4.stp s5 (by omega)
                obtain ⟨z5, e1⟩ : ∃ z, z = z4.ap 9 a5 c5 (-1) false := ⟨_, rfl⟩
                rw [← e1] at m5
                have E5 : Hid (z5 = z4.ap 9 a5 c5 (-1) false) := e1
                have D3_5 : z5.L 3 ≤ 900000000 := by rw [e1, ap_L _ _ _ _ _ _ _ (by decide)]; exact D3_4
                have D6_5 : z5.L 6 ≤ 900000000 := by rw [e1, ap_L _ _ _ _ _ _ _ (by decide)]; exact D6_4
                have D7_5 : z5.L 7 ≤ 900000000 := by rw [e1, ap_L _ _ _ _ _ _ _ (by decide)]; exact D7_4
                have D10_5 : z5.L 10 ≤ 900000000 := by rw [e1, ap_L _ _ _ _ _ _ _ (by decide)]; exact D10_4
                have D11_5 : z5.L 11 ≤ 900000000 := by rw [e1, ap_L _ _ _ _ _ _ _ (by decide)]; exact D11_4
                clear e1 m4 s5 ho hx x4 o4 hc hT hfz D3_4 D6_4 D7_4 D10_4 D11_4 D9_4
                go_upto_region 31 with fail
                generalize w5.setCell ⟨bs, 9, none⟩ (.slice a5 (z4.L 9 + 1) c5) = v5 at *
                generalize upd t4 _ 9 = t5 at *
                have hc := m5.sl 10 (by omega) (by omega) (by omega)
                have hT := m5.tab 10 tab10
                have hfz := m5.frz 10 (by omega)
                go_wp2_with (at_builtin; refine wpList_app _ rfl (.tmp 228) (.tmp 229) 23 rfl 39 (.int .i8 0) 1 Try.underlying23 info39 rfl (Tg W t5 10) (z5.a 10) (z5.L 10) (z5.C 10) (z5.f 10) rfl (hT.alloc _) ⟨v5.heap.size, 0, none⟩ 1 (.int .i8 0) rfl (cell_new1 _ _ _ _ (by simp)) rfl (by omega) (by omega) ?_)
                intro a6 c6 w6 ho hx _
                obtain ⟨hd1, hd2, m6, s6⟩ := m5.ap 10 tab10 (by omega) 0 false ((Ext.refl _ _).alloc _) (by simp) ho hx
                have x6 := x5.trans s6.ext (fun k _ h => h.1)
                have o6 := o5.stp s6 (by omega)
                obtain ⟨z6, e1⟩ : ∃ z, z = z5.ap 10 a6 c6 0 false := ⟨_, rfl⟩
                rw [← e1] at m6
                have E6 : Hid (z6 = z5.ap 10 a6 c6 0 false) := e1
                have D3_6 : z6.L 3 ≤ 900000000 := by rw [e1, ap_L _ _ _ _ _ _ _ (by decide)]; exact D3_5
                have D6_6 : z6.L 6 ≤ 900000000 := by rw [e1, ap_L _ _ _ _ _ _ _ (by decide)]; exact D6_5
                have D7_6 : z6.L 7 ≤ 900000000 := by rw [e1, ap_L _ _ _ _ _ _ _ (by decide)]; exact D7_5
                have D11_6 : z6.L 11 ≤ 900000000 := by rw [e1, ap_L _ _ _ _ _ _ _ (by decide)]; exact D11_5
                clear e1 m5 s6 ho hx x5 o5 hc hT hfz D3_5 D6_5 D7_5 D11_5 D10_5
                go_upto_region 32 with fail
                generalize w6.setCell ⟨bs, 10, none⟩ (.slice a6 (z5.L 10 + 1) c6) = v6 at *
                generalize upd t5 _ 10 = t6 at *
                have hc := m6.sl 11 (by omega) (by omega) (by omega)
                have hT := m6.tab 11 tab11
                have hfz := m6.frz 11 (by omega)
                go_wp2_with (at_builtin; refine wpList_app _ rfl (.tmp 237) (.tmp 238) 24 rfl 3 (.int .i64 0) 8 Try.underlying24 info3 rfl (Tg W t6 11) (z6.a 11) (z6.L 11) (z6.C 11) (z6.f 11) rfl (hT.alloc _) ⟨v6.heap.size, 0, none⟩ 1 (.int .i64 0) rfl (cell_new1 _ _ _ _ (by simp)) rfl (by omega) (by omega) ?_)
                intro a7 c7 w7 ho hx _
                obtain ⟨hd1, hd2, m7, s7⟩ := m6.ap 11 tab11 (by omega) 0 false ((Ext.refl _ _).alloc _) (by simp) ho hx
                have x7 := x6.trans s7.ext (fun k _ h => h.1)
                have o7 := o6.stp s7 (by omega)
                obtain ⟨z7, e1⟩ : ∃ z, z = z6.ap 11 a7 c7 0 false := ⟨_, rfl⟩
                rw [← e1] at m7
                have E7 : Hid (z7 = z6.ap 11 a7 c7 0 false) := e1
                have D3_7 : z7.L 3 ≤ 900000000 := by rw [e1, ap_L _ _ _ _ _ _ _ (by decide)]; exact D3_6
                have D6_7 : z7.L 6 ≤ 900000000 := by rw [e1, ap_L _ _ _ _ _ _ _ (by decide)]; exact D6_6
                have D7_7 : z7.L 7 ≤ 900000000 := by rw [e1, ap_L _ _ _ _ _ _ _ (by decide)]; exact D7_6
                clear e1 m6 s7 ho hx x6 o6 hc hT hfz D3_6 D6_6 D7_6 D11_6
                go_upto_region 33 with fail
                generalize w7.setCell ⟨bs, 11, none⟩ (.slice a7 (z6.L 11 + 1) c7) = v7 at *
                generalize upd t6 _ 11 = t7 at *
                have hZ : Z7 n x y z7 nm cM mk aM := by
                  rw [E7.out, E6.out, E5.out, E4.out, E3.out, E2.out, E1.out]
                  exact z7_of _ _ _ _ _ _ _ _ _ _ _ _ _ _ Q0.out Q1.out Q2.out Q8.out HG.out EC.out
                have HTKx : Hid (TK (three v u w) { x with s4 := wrap64 (x.s4 + (x.d u + x.d w : Nat)) } 3 y) := by
                  have h1 := HTK.out
                  rw [EC.out] at h1
                  rw [show ((x.d u + x.d w : Nat) : Int) = (x.d u : Int) + (x.d w : Int) by omega]
                  exact h1
                have hI0 : I4 n x z7 nm mk aM 0 z7 := I4.zero hZ hin.full
                have hmk : ∀ k, k < nm → mk k < n := fun k hk => by
                  rcases ((hMade.mem (mk k)).1 ⟨k, hk, rfl⟩).1 with ⟨i, hi, e⟩ | ⟨i, hi, e⟩
                  · rw [← e]; exact hgr.lt u hun i hi
                  · rw [← e]; exact hgr.lt w hwn i hi
                have HMk : Hid (∀ k, k < nm → mk k < n) := hmk
                have HInc : Hid (∀ i j, i < j → j < nm → mk i < mk j) := hMade.inc
                have HZ : Hid (Z7 n x y z7 nm cM mk aM) := hZ
                have b0 : z7.L 0 ≤ 200000 := by rw [hZ.l0]; omega
                have b2 : z7.L 2 ≤ 200000 := by rw [hZ.l2]; omega
                have b3 : z7.L 3 ≤ 900000000 := by rw [hZ.l3]; exact B3
                have b6 : z7.L 6 ≤ 131072 := by rw [hZ.l6]; exact hin.l6
                have b7 : z7.L 7 ≤ 900000000 := by rw [hZ.l7]; exact B7
                have b8 : z7.L 8 ≤ 200000 := by rw [hZ.l8]; omega
                have n0 : n < z7.L 0 := by rw [hZ.l0]; omega
                have n2 : n < z7.L 2 := by rw [hZ.l2]; omega
                have n8 : n < z7.L 8 := by rw [hZ.l8]; omega
                have H6 : Hid (z7.L 6 = x.L 6) := hZ.l6
                clear hmk hZ E1 E2 E3 E4 E5 E6 E7 D3_7 D6_7 D7_7 HLy HTK
                go_wp2_with fail
                go_loopw [244] (fun s244 wr => ∃ (k : Nat) (tg : Nat → Nat) (zz : FA), k ≤ nm ∧ s244 = .int .i64 k ∧ FM W tg wr bs zz ∧ Ext (fun k => W.heap.size ≤ k) w0 wr ∧ Own (Tg W tg 14) 68 wr (some ⟨w0.heap.size, 0, none⟩) 4 4 (fvA n v u w iu iw (x.d v)) ∧ I4 n x z7 nm mk aM k zz) (fun i _ => nm - (intOf i).toNat)
                case atStart => exact ⟨0, t7, z7, Nat.zero_le _, rfl, m7, x7, o7, hI0⟩
                case round =>
                  clear hI0 m7 x7 o7
                  obtain ⟨k, tg, zz, hk, rfl, hm, hx0, ho, hI⟩ := hrel
                  rename World => wr
                  by_cases hkl : k < nm
                  · have hqn := HMk.out k hkl
                    have hrn := hm.rows n (by rw [hI.L]; exact n0)
                    rw [hI.R, hI.dn, hI.Nn] at hrn
                    obtain ⟨bM, offM, rfl, _, hcM⟩ := hrn k hkl
                    dsimp only at hcM
                    have hnew := I4.new (n := n) HInc.out hkl
                    have hdq : zz.d (mk k) = x.d (mk k) := by have := hI.d (mk k) hqn; rw [hnew] at this; simpa using this
                    have hrq : zz.rc (mk k) = zz.d (mk k) := by rw [hI.rc (mk k) hqn hnew, hdq]
                    have hdb : zz.d (mk k) ≤ 131072 := by rw [hdq]; exact hgr.dle _ hqn
                    have hf0 := hm.sl 0 (by omega) (by omega) (by omega)
                    obtain ⟨gA, egA, hcrow, hrowq⟩ := hm.row (mk k) (by rw [hI.L]; omega)
                    rw [egA] at hf0
                    rw [hrq] at hcrow
                    have hbA : zz.L 0 ≤ 200000 := by rw [hI.L]; exact b0
                    have hqA : mk k < zz.L 0 := by rw [hI.L]; omega
                    obtain ⟨g, eg, hS14, _, hcf, _, _⟩ := ho.at 0 (by omega)
                    obtain rfl : w0.heap.size = g := by simpa using eg
                    have hcf' : wr.cell? ⟨w0.heap.size, 0, none⟩ = some (.int .i64 (n : Int)) := hcf
                    have hbsl := (hm.fld 0 (by omega)).2.2.2.2
                    have HI : Hid (I4 n x z7 nm mk _ k zz) := hI
                    have hIL : Hid (zz.L = z7.L) := hI.L
                    have hIdg := hI.dg (mk k) hqn
                    have hm' := hm
                    clear hI eg hcf hnew hrq hdq hIdg
                    have Hq : Hid (mk k = mk k) := rfl
                    generalize hqq : mk k = q at *
                    have HQ : Hid (mk k = q) := hqq
                    clear hqq Hq
                    go_upto_region 36 with fail
                    refine wp_region_good (by kernel_rfl) (by kernel_rfl) (by kernel_rfl) (by kernel_rfl) (RA (val36 bs w0.heap.size gA q n (zz.L 0) (zz.C 0) (zz.d q) (zz.R q)) 11 14 15 17 (K36 bs w0.heap.size gA n (zz.L 0) (zz.C 0)) (P36a wr) (P36b wr n) (P36c wr zz q n) (P36d W tg wr bs zz q n)) (RA.start ⟨hf0, hcf'⟩ rfl) (OpsAll.all0 ⟨?_, ?_, ?_, ?_, ?_, ?_, ?_, ?_, ?_, ?_, ?_, ?_, ?_, ?_, ?_, ?_, ?_, ?_, trivial⟩) ?_
                    rotate_right
                    · intro vv wc hRA
                      obtain ⟨a', c', tg', m8, s8⟩ := hRA.fin (by simp)
                      clear hRA
                      have o8 := ho.stp s8 (by omega)
                      have x8 := hx0.trans s8.ext (fun k _ h => h.1)
                      have hq2 : q < zz.L 2 := by rw [hIL.out]; omega
                      have hb2 : zz.L 2 ≤ 200000 := by rw [hIL.out]; exact b2
                      have hc2 := m8.sl 2 (by omega) (by omega) (by omega)
                      obtain ⟨gD, egD, hcd, hfd, hputD⟩ := m8.dgAt q hq2
                      rw [egD] at hc2
                      obtain ⟨m9, s9⟩ := hputD (wrap64 (zz.dg q + 1))
                      have o9 := o8.stp s9 (by omega)
                      have x9 := x8.trans s9.ext (fun k _ h => h.1)
                      have hI9 := HI.out.step HInc.out hkl (by rw [HQ.out]; exact hqn) a' c'
                      rw [HQ.out] at hI9
                      have hc2' : wc.cell? ⟨bs, 2, none⟩ = some (.slice (some ⟨gD, 0, none⟩) (zz.L 2) (zz.C 2)) := hc2
                      have hcd' : wc.cell? ⟨gD, q, none⟩ = some (.int .i64 (zz.dg q)) := hcd
                      have m9' : FM W tg' (wc.setCell ⟨gD, q, none⟩ (.int .i64 (wrap64 (zz.dg q + 1)))) bs { zz.r4 q a' c' n with dg := upd zz.dg q (wrap64 (zz.dg q + 1)) } := m9
                      clear hc2 hcd m9 hputD m8 s8 s9 o8 x8 hm' hm ho hx0 HI egD hf0 hcrow hcf' hrowq
                      obtain ⟨zn, hzn⟩ : ∃ z, z = ({ zz.r4 q a' c' n with dg := upd zz.dg q (wrap64 (zz.dg q + 1)) } : FA) := ⟨_, rfl⟩
                      rw [← hzn] at m9' hI9
                      clear hzn
                      generalize zz.dg q = dq at *
                      generalize zz.L 2 = nD at *
                      generalize zz.C 2 = cD at *
                      simp only [putAll]
                      go_wp2_with fail
                      go_roundw
                      case rel => exact ⟨k + 1, tg', zn, by omega, by go_num, m9', x9, o9, hI9⟩
                      case measure => simp [intOf]; omega
                    · exact goodMove (.tmp 0) (.inl rfl) (fun m a w h hm ht => h.rd 0 _ (by decide) (by decide) (by decide) (by rw [(ht.out 0 (by kernel_rfl)).trans (show _ = Value.pointer (some ⟨bs, 0, none⟩) by kernel_rfl)]; rfl))
                    · exact goodVal (fun m a w h hm ht => ⟨_, _, run_nil (.tmp 248) rfl _ (h.vals 0 _ rfl _ (ht.on 0 248 (by kernel_rfl) (by kernel_rfl))), h.rd 1 _ (by decide) (by decide) (by decide) rfl⟩)
                    · exact goodVal (fun m a w h hm ht => ⟨_, _, run_fld (.tmp 249) 0 (by decide) rfl bs (h.vals 1 _ rfl _ (ht.on 1 249 (by kernel_rfl) (by kernel_rfl))), h.rd 2 _ (by decide) (by decide) (by decide) rfl⟩)
                    · exact goodVal (fun m a w h hm ht => ⟨_, _, run_ld 22 (by decide) (.tmp 250) rfl _ (h.vals 2 _ rfl _ (ht.on 2 250 (by kernel_rfl) (by kernel_rfl))) _ (h.k.1), h.rd 3 _ (by decide) (by decide) (by decide) rfl⟩)
                    · exact goodMove (.tmp 14) (.inl rfl) (fun m a w h hm ht => h.rd 4 _ (by decide) (by decide) (by decide) (by rw [(ht.out 14 (by kernel_rfl)).trans (show _ = Value.int .i64 (q : Int) by kernel_rfl)]; rfl))
                    · exact goodMove (.tmp 0) (.inl rfl) (fun m a w h hm ht => h.rd 5 _ (by decide) (by decide) (by decide) (by rw [(ht.out 0 (by kernel_rfl)).trans (show _ = Value.pointer (some ⟨bs, 0, none⟩) by kernel_rfl)]; rfl))
                    · exact goodVal (fun m a w h hm ht => ⟨_, _, run_nil (.tmp 253) rfl _ (h.vals 5 _ rfl _ (ht.on 5 253 (by kernel_rfl) (by kernel_rfl))), h.rd 6 _ (by decide) (by decide) (by decide) rfl⟩)
                    · exact goodVal (fun m a w h hm ht => ⟨_, _, run_fld (.tmp 254) 0 (by decide) rfl bs (h.vals 6 _ rfl _ (ht.on 6 254 (by kernel_rfl) (by kernel_rfl))), h.rd 7 _ (by decide) (by decide) (by decide) rfl⟩)
                    · exact goodVal (fun m a w h hm ht => ⟨_, _, run_ld 22 (by decide) (.tmp 255) rfl _ (h.vals 7 _ rfl _ (ht.on 7 255 (by kernel_rfl) (by kernel_rfl))) _ (h.k.1), h.rd 8 _ (by decide) (by decide) (by decide) rfl⟩)
                    · exact goodMove (.tmp 14) (.inl rfl) (fun m a w h hm ht => h.rd 9 _ (by decide) (by decide) (by decide) (by rw [(ht.out 14 (by kernel_rfl)).trans (show _ = Value.int .i64 (q : Int) by kernel_rfl)]; rfl))
                    · exact goodVal (fun m a w h hm ht => ⟨_, _, run_idx (.tmp 256) (.tmp 257) rfl gA (zz.L 0) (zz.C 0) q (h.vals 8 _ rfl _ (ht.on 8 256 (by kernel_rfl) (by kernel_rfl))) (h.vals 9 _ rfl _ (ht.on 9 257 (by kernel_rfl) (by kernel_rfl))) hqA (by omega), h.rd 10 _ (by decide) (by decide) (by decide) rfl⟩)
                    · exact goodVal (fun m a w h hm ht => ⟨_, _, run_ld 24 (by decide) (.tmp 258) rfl _ (h.vals 10 _ rfl _ (ht.on 10 258 (by kernel_rfl) (by kernel_rfl))) _ ((h.early hm).elim (fun e => by rw [show w = wr.drew from e]; exact hcrow) (fun ⟨vb, e⟩ => by rw [e.2]; exact cellX hcrow (((Ext.refl (fun _ => False) wr).drew).alloc _) (fun h => h))), h.rd 11 _ (by decide) (by decide) (by decide) rfl⟩)
                    · exact goodVal (fun m a w h hm ht => ⟨_, _, run_fld68 (.tmp 4) rfl w0.heap.size ((ht.out 4 (by kernel_rfl)).trans (by kernel_rfl)), h.rd 12 _ (by decide) (by decide) (by decide) rfl⟩)
                    · exact goodVal (fun m a w h hm ht => ⟨_, _, run_ld 3 (by decide) (.tmp 260) rfl _ (h.vals 12 _ rfl _ (ht.on 12 260 (by kernel_rfl) (by kernel_rfl))) _ (h.k.2), h.rd 13 _ (by decide) (by decide) (by decide) rfl⟩)
                    · refine goodVal (fun m a w h hm ht => ?_)
                      have e13 := h.vals 13 _ rfl _ (ht.on 13 261 (by kernel_rfl) (by kernel_rfl))
                      obtain ⟨hw, _, _⟩ := h.at0 hm
                      obtain rfl : w = wr.drew := hw
                      have hxa := ((Ext.refl (fun _ => False) wr).drew).alloc (.cells #[.int .i64 (n : Int)] 3)
                      exact ⟨_, _, run_bld (.tmp 261) rfl (n : Int) e13, h.bld hm rfl (by decide) (by decide) ⟨cellX hf0 hxa (fun h => h), cellX hcf' hxa (fun h => h)⟩ ⟨rfl, rfl⟩⟩
                    · refine goodVal (fun m a w h hm ht => ?_)
                      have m11 := ht.on 11 259 (by kernel_rfl) (by kernel_rfl)
                      have m14 := ht.on 14 262 (by kernel_rfl) (by kernel_rfl)
                      have e11 := h.vals 11 _ rfl _ m11
                      obtain ⟨⟨e14, hw⟩, _⟩ := h.at1 hm m14
                      have hxa := ((Ext.refl (fun _ => False) wr).drew).alloc (.cells #[.int .i64 (n : Int)] 3)
                      rw [← hw] at hxa
                      have hsz : w.heap.size = wr.heap.size + 1 := by rw [hw]; simp
                      have hnc : w.cell? ⟨wr.heap.size, 0, none⟩ = some (.int .i64 (n : Int)) := by rw [hw]; exact cell_new1 _ _ _ _ (by simp)
                      obtain ⟨a', c', w', hrun, ho', hx'⟩ := run_appFull (P := Try.prog) w 24 24 3 (.int .i64 0) 8 Try.underlying24 info3 rfl (Tg W tg 12) (zz.R q) (zz.d q) _ (hrowq.ext hxa (fun _ _ h => h)) ⟨wr.heap.size, 0, none⟩ 1 (.int .i64 (n : Int)) hnc rfl (by omega) (by omega)
                      rw [hsz] at ho'
                      have hxb := hxa.trans hx' (fun _ _ h => h)
                      refine ⟨_, _, run_apd (.tmp 259) (.tmp 262) 24 rfl _ _ (by rw [e11, e14]; exact hrun), h.app hm m14 m11 rfl (by decide) ⟨cellX hf0 hxb (fun h => h), cellX hcf' hxb (fun h => h)⟩ ⟨a', c', rfl, ho', hxb⟩⟩
                    · exact goodVal (fun m a w h hm ht => ⟨_, _, run_idx (.tmp 251) (.tmp 252) rfl gA (zz.L 0) (zz.C 0) q (h.vals 3 _ rfl _ (ht.on 3 251 (by kernel_rfl) (by kernel_rfl))) (h.vals 4 _ rfl _ (ht.on 4 252 (by kernel_rfl) (by kernel_rfl))) hqA (by omega), h.rd 16 _ (by decide) (by decide) (by decide) rfl⟩)
                    · refine goodSkip (fun m a w h hm ht => ?_)
                      have e16 := h.vals 16 _ rfl _ (ht.on 16 264 (by kernel_rfl) (by kernel_rfl))
                      have m15 := ht.on 15 263 (by kernel_rfl) (by kernel_rfl)
                      obtain ⟨⟨a', c', e15, ho', hx'⟩, _⟩ := h.at2 hm m15
                      obtain ⟨g', eg', hc', hf', m8, s8⟩ := hm'.rowApp hqA hx' (Nat.le_succ _) ho'
                      obtain rfl : gA = g' := by rw [egA] at eg'; simpa using eg'
                      have hk1 := m8.sl 0 (by omega) (by omega) (by omega)
                      obtain ⟨g2, eg2, _, _, hk2, _, _⟩ := (ho.stp s8 (by omega)).at 0 (by omega)
                      obtain rfl : w0.heap.size = g2 := by simpa using eg2
                      exact ⟨_, run_sto 24 (by decide) (.tmp 264) (.tmp 263) rfl _ e16 _ _ _ e15 _ hc' hf', h.sto hm m15 rfl ⟨by rw [hk1]; show some (Value.slice (zz.a 0) (zz.L 0) (zz.C 0)) = _; rw [egA], hk2⟩ ⟨a', c', _, m8, s8⟩⟩
                  · obtain rfl : k = nm := by omega
                    have hbsl := hm.fld 0 (by omega)
                    have H6' : zz.L 6 = x.L 6 := by rw [hI.L]; exact H6.out
                    have h6b : zz.L 6 ≤ 131072 := by rw [hI.L]; exact b6
                    have h3b : zz.L 3 ≤ 900000000 := by rw [hI.L]; exact b3
                    have hK0 := hm.sl 6 (by omega) (by omega) (by omega)
                    have hT0 := hm.sl 3 (by omega) (by omega) (by omega)
                    have HI : Hid (I4 n x z7 k mk aM k zz) := hI
                    have H6z : Hid (zz.L 6 = x.L 6) := H6'
                    have hm' := hm
                    clear hI H6'
                    go_upto_region 39 with fail
                    refine wp_region_good (by kernel_rfl) (by kernel_rfl) (by kernel_rfl) (by kernel_rfl) (RA (val39 bs (zz.L 3) (zz.C 3) (zz.L 6) (zz.C 6) (zz.a 3) (zz.a 6)) 4 11 12 15 (K39 bs (zz.L 6) (zz.C 6) (zz.a 6)) (P36a wr) (P39b wr (-1 - (zz.L 6 : Int))) (P39c W tg wr zz (-1 - (zz.L 6 : Int))) (P39d W tg wr bs zz (-1 - (zz.L 6 : Int)))) (RA.start hK0 rfl) (OpsAll.all0 ⟨?_, ?_, ?_, ?_, ?_, ?_, ?_, ?_, ?_, ?_, ?_, ?_, ?_, ?_, ?_, ?_, trivial⟩) ?_
                    rotate_right
                    · intro vv wc hRA
                      obtain ⟨a8, c8, tg8, m8, s8⟩ := hRA.fin (by simp)
                      clear hRA
                      have o8 := ho.stp s8 (by omega)
                      have x8 := hx0.trans s8.ext (fun k _ h => h.1)
                      obtain ⟨z8, e8⟩ : ∃ z, z = zz.ap 3 a8 c8 (-1 - (zz.L 6 : Int)) false := ⟨_, rfl⟩
                      rw [← e8] at m8
                      have E8 : Hid (z8 = zz.ap 3 a8 c8 (-1 - (zz.L 6 : Int)) false) := e8
                      have h6b8 : z8.L 6 ≤ 131072 := by rw [e8, ap_L _ _ _ _ _ _ _ (by decide)]; exact h6b
                      have h7b8 : z8.L 7 ≤ 900000000 := by rw [e8, ap_L _ _ _ _ _ _ _ (by decide), HI.out.L]; exact b7
                      have h8b8 : z8.L 8 ≤ 200000 := by rw [e8, ap_L _ _ _ _ _ _ _ (by decide), HI.out.L]; exact b8
                      have n8b : n < z8.L 8 := by rw [e8, ap_L _ _ _ _ _ _ _ (by decide), HI.out.L]; exact n8
                      have hK8 : K40 w0.heap.size n v u w wc := K40.of o8 (by omega) htw0
                      have hF8 := m8.sl 6 (by omega) (by omega) (by omega)
                      clear e8 hm ho hx0 hK0 hT0 s8
                      simp only [putAll]
                      go_upto_region 40 with fail
                      refine wp_region_good (by kernel_rfl) (by kernel_rfl) (by kernel_rfl) (by kernel_rfl) (RA (val40 bs (z8.L 6) (z8.C 6) (z8.a 6) n v u w) 4 6 7 10 (K40 w0.heap.size n v u w) (P36a wc) (P40b wc n v u w) (P40c W tg8 wc z8 n v u w) (P40d W tg8 wc bs z8 n v u w)) (RA.start ⟨hK8.c0, hK8.c1, hK8.c2, hK8.c3⟩ rfl) (OpsAll.all0 ⟨?_, ?_, ?_, ?_, ?_, ?_, ?_, ?_, ?_, ?_, ?_, trivial⟩) ?_
                      rotate_right
                      · intro vv2 wd hRB
                        obtain ⟨a9, c9, tg9, m9, s9⟩ := hRB.fin (by simp)
                        clear hRB
                        have x9 := x8.trans s9.ext (fun k _ h => h.1)
                        have hK9 : K40 w0.heap.size n v u w wd := K40.of (o8.stp s9 (by omega)) (by omega) htw0
                        obtain ⟨z9, e9⟩ : ∃ z, z = z8.apF a9 c9 (four n v u w) := ⟨_, rfl⟩
                        rw [← e9] at m9
                        have E9 : Hid (z9 = z8.apF a9 c9 (four n v u w)) := e9
                        have n8c : n < z9.L 8 := by rw [e9]; exact n8b
                        have h8c : z9.L 8 ≤ 200000 := by rw [e9]; exact h8b8
                        have h7c : z9.L 7 ≤ 900000000 := by rw [e9]; exact h7b8
                        have hn0 := hK9.c0
                        clear e9 hK8 hF8 m8 s9 o8 x8 hK9
                        simp only [putAll]
                        go_wp2_with fail
                        refine (touch_any m9 n n8c (by omega) (by omega)).mono ?_
                        rintro e wf ⟨rfl, tagf, xf, mf, sf, hTf⟩
                        have xf9 := x9.trans sf.ext (fun k _ h => h.1)
                        have HF : FoldR n x xf v u w k mk y := by
                          rw [E9.out, E8.out, H6z.out] at hTf
                          exact foldR_of HZ.out HI.out HTKx.out hTf
                        clear hTf sf m9 x9 hn0
                        go_wp2_with fail
                        go_end0
                        exact ⟨rfl, tagf, xf, k, mk, y, mf, xf9, HF, hMade⟩
                      · exact goodMove (.tmp 0) (.inl rfl) (fun m a w h hm ht => h.rd 0 _ (by decide) (by decide) (by decide) (by rw [(ht.out 0 (by kernel_rfl)).trans (show _ = Value.pointer (some ⟨bs, 0, none⟩) by kernel_rfl)]; rfl))
                      · exact goodMove (.tmp 0) (.inl rfl) (fun m a w h hm ht => h.rd 1 _ (by decide) (by decide) (by decide) (by rw [(ht.out 0 (by kernel_rfl)).trans (show _ = Value.pointer (some ⟨bs, 0, none⟩) by kernel_rfl)]; rfl))
                      · exact goodVal (fun m a w h hm ht => ⟨_, _, run_nil (.tmp 291) rfl _ (h.vals 1 _ rfl _ (ht.on 1 291 (by kernel_rfl) (by kernel_rfl))), h.rd 2 _ (by decide) (by decide) (by decide) rfl⟩)
                      · exact goodVal (fun m a w h hm ht => ⟨_, _, run_fld (.tmp 292) 6 (by decide) rfl bs (h.vals 2 _ rfl _ (ht.on 2 292 (by kernel_rfl) (by kernel_rfl))), h.rd 3 _ (by decide) (by decide) (by decide) rfl⟩)
                      · exact goodVal (fun m a w h hm ht => ⟨_, _, run_ld 64 (by decide) (.tmp 293) rfl _ (h.vals 3 _ rfl _ (ht.on 3 293 (by kernel_rfl) (by kernel_rfl))) _ ((h.early hm).elim (fun e => by rw [show w = wc.drew from e]; exact hF8) (fun ⟨vb, e⟩ => by rw [e.2]; exact cellX hF8 (((Ext.refl (fun _ => False) wc).drew).alloc _) (fun h => h))), h.rd 4 _ (by decide) (by decide) (by decide) rfl⟩)
                      · exact goodVal (fun m a w h hm ht => ⟨_, _, run_ld4 (.tmp 4) rfl w0.heap.size ((ht.out 4 (by kernel_rfl)).trans (by kernel_rfl)) _ _ _ _ h.k.c0 h.k.c1 h.k.c2 h.k.c3, h.rd 5 _ (by decide) (by decide) (by decide) rfl⟩)
                      · refine goodVal (fun m a w' h hm ht => ?_)
                        have e5 := h.vals 5 _ rfl _ (ht.on 5 295 (by kernel_rfl) (by kernel_rfl))
                        obtain ⟨hw, _, _⟩ := h.at0 hm
                        obtain rfl : w' = wc.drew := hw
                        have hxa := ((Ext.refl (fun _ => False) wc).drew).alloc (.cells #[.int .i64 (n : Int), .int .i64 (v : Int), .int .i64 (u : Int), .int .i64 (w : Int)] 68)
                        exact ⟨_, _, run_bld4 (.tmp 295) rfl _ _ _ _ e5, h.bld hm rfl (by decide) (by decide) (hK8.ext hxa (fun h => h)) ⟨rfl, rfl⟩⟩
                      · refine goodVal (fun m a w' h hm ht => ?_)
                        have m4 := ht.on 4 294 (by kernel_rfl) (by kernel_rfl)
                        have m6 := ht.on 6 296 (by kernel_rfl) (by kernel_rfl)
                        have e4 := h.vals 4 _ rfl _ m4
                        obtain ⟨⟨e6, hw⟩, _⟩ := h.at1 hm m6
                        have hxa := ((Ext.refl (fun _ => False) wc).drew).alloc (.cells #[.int .i64 (n : Int), .int .i64 (v : Int), .int .i64 (u : Int), .int .i64 (w : Int)] 68)
                        have hsz : w'.heap.size = wc.heap.size + 1 := by rw [hw]; simp
                        have hnc : ∀ (j : Nat) (v' : Value), ([.int .i64 (n : Int), .int .i64 (v : Int), .int .i64 (u : Int), .int .i64 (w : Int)] : List Value)[j]? = some v' → w'.cell? ((⟨wc.heap.size, 0, none⟩ : Addr).add j) = some v' := by
                          intro j v' hj
                          rw [hw, Addr.add_lit, Nat.zero_add]
                          have hg := heap_alloc_new wc.drew (.cells #[.int .i64 (n : Int), .int .i64 (v : Int), .int .i64 (u : Int), .int .i64 (w : Int)] 68)
                          have h9 := cell_of_row _ wc.drew.heap.size j _ 68 (0, 0) hg
                          exact h9.trans (by simpa using hj)
                        have hT6 : Own4 (Tg W tg8 6) 68 w' (z8.a 6) (z8.L 6) (z8.C 6) z8.F := by rw [hw]; exact m8.fo.tagged hxa (fun _ _ h => h) (fun _ _ => rfl)
                        obtain ⟨a9, c9, w9, hrun, ho9, hx9⟩ := run_app4 (P := Try.prog) w' 64 64 68 _ Try.underlying64 info68 rfl (Tg W tg8 6) (z8.a 6) (z8.L 6) (z8.C 6) z8.F hT6 ⟨wc.heap.size, 0, none⟩ 1 (n : Int) (v : Int) (u : Int) (w : Int) hnc (four n v u w) rfl rfl rfl rfl (by omega) (by omega)
                        rw [hsz] at ho9
                        rw [hw] at hx9
                        have hxb : Ext (Tg W tg8 6) wc w9 := (hxa.mono (fun _ _ h => h.elim)).trans hx9 (fun _ _ h => h)
                        have hbf : ¬ Tg W tg8 6 w0.heap.size := fun h => by have h1 := h.1; obtain ⟨_, e, hS, _⟩ := o8.at 0 (by omega); injection e with e; injection e with e; rw [e] at h1; have := hS.1; omega
                        refine ⟨_, _, run_apd (.tmp 294) (.tmp 296) 64 rfl _ _ (by rw [e4, e6]; exact hrun), h.app hm m6 m4 rfl (by decide) (hK8.ext hxb hbf) ⟨a9, c9, rfl, ho9, hx9⟩⟩
                      · exact goodVal (fun m a w h hm ht => ⟨_, _, run_nil (.tmp 290) rfl _ (h.vals 0 _ rfl _ (ht.on 0 290 (by kernel_rfl) (by kernel_rfl))), h.rd 8 _ (by decide) (by decide) (by decide) rfl⟩)
                      · exact goodVal (fun m a w h hm ht => ⟨_, _, run_fld (.tmp 298) 6 (by decide) rfl bs (h.vals 8 _ rfl _ (ht.on 8 298 (by kernel_rfl) (by kernel_rfl))), h.rd 9 _ (by decide) (by decide) (by decide) rfl⟩)
                      · refine goodSkip (fun m a w' h hm ht => ?_)
                        have e9 := h.vals 9 _ rfl _ (ht.on 9 299 (by kernel_rfl) (by kernel_rfl))
                        have m7' := ht.on 7 297 (by kernel_rfl) (by kernel_rfl)
                        obtain ⟨⟨a9, c9, e7, ho9, hx9⟩, _⟩ := h.at2 hm m7'
                        obtain ⟨hc9, hf9, m9, s9⟩ := m8.appF (((Ext.refl (fun _ => False) wc).drew).alloc _) (by simp) ho9 hx9
                        exact ⟨_, run_sto 64 (by decide) (.tmp 299) (.tmp 297) rfl _ e9 _ _ _ e7 _ hc9 hf9, h.sto hm m7' rfl (K40.of (o8.stp s9 (by omega)) (by omega) htw0) ⟨a9, c9, _, m9, s9⟩⟩
                    · exact goodMove (.tmp 0) (.inl rfl) (fun m a w h hm ht => h.rd 0 _ (by decide) (by decide) (by decide) (by rw [(ht.out 0 (by kernel_rfl)).trans (show _ = Value.pointer (some ⟨bs, 0, none⟩) by kernel_rfl)]; rfl))
                    · exact goodMove (.tmp 0) (.inl rfl) (fun m a w h hm ht => h.rd 1 _ (by decide) (by decide) (by decide) (by rw [(ht.out 0 (by kernel_rfl)).trans (show _ = Value.pointer (some ⟨bs, 0, none⟩) by kernel_rfl)]; rfl))
                    · exact goodVal (fun m a w h hm ht => ⟨_, _, run_nil (.tmp 276) rfl _ (h.vals 1 _ rfl _ (ht.on 1 276 (by kernel_rfl) (by kernel_rfl))), h.rd 2 _ (by decide) (by decide) (by decide) rfl⟩)
                    · exact goodVal (fun m a w h hm ht => ⟨_, _, run_fld (.tmp 277) 3 (by decide) rfl bs (h.vals 2 _ rfl _ (ht.on 2 277 (by kernel_rfl) (by kernel_rfl))), h.rd 3 _ (by decide) (by decide) (by decide) rfl⟩)
                    · exact goodVal (fun m a w h hm ht => ⟨_, _, run_ld 24 (by decide) (.tmp 278) rfl _ (h.vals 3 _ rfl _ (ht.on 3 278 (by kernel_rfl) (by kernel_rfl))) _ ((h.early hm).elim (fun e => by rw [show w = wr.drew from e]; exact hT0) (fun ⟨vb, e⟩ => by rw [e.2]; exact cellX hT0 (((Ext.refl (fun _ => False) wr).drew).alloc _) (fun h => h))), h.rd 4 _ (by decide) (by decide) (by decide) rfl⟩)
                    · exact goodMove (.tmp 0) (.inl rfl) (fun m a w h hm ht => h.rd 5 _ (by decide) (by decide) (by decide) (by rw [(ht.out 0 (by kernel_rfl)).trans (show _ = Value.pointer (some ⟨bs, 0, none⟩) by kernel_rfl)]; rfl))
                    · exact goodVal (fun m a w h hm ht => ⟨_, _, run_nil (.tmp 280) rfl _ (h.vals 5 _ rfl _ (ht.on 5 280 (by kernel_rfl) (by kernel_rfl))), h.rd 6 _ (by decide) (by decide) (by decide) rfl⟩)
                    · exact goodVal (fun m a w h hm ht => ⟨_, _, run_fld (.tmp 281) 6 (by decide) rfl bs (h.vals 6 _ rfl _ (ht.on 6 281 (by kernel_rfl) (by kernel_rfl))), h.rd 7 _ (by decide) (by decide) (by decide) rfl⟩)
                    · exact goodVal (fun m a w h hm ht => ⟨_, _, run_ld 64 (by decide) (.tmp 282) rfl _ (h.vals 7 _ rfl _ (ht.on 7 282 (by kernel_rfl) (by kernel_rfl))) _ (h.k), h.rd 8 _ (by decide) (by decide) (by decide) rfl⟩)
                    · exact goodVal (fun m a w h hm ht => ⟨_, _, run_len24 64 (.tmp 283) rfl rfl _ _ _ (h.vals 8 _ rfl _ (ht.on 8 283 (by kernel_rfl) (by kernel_rfl))), h.rd 9 _ (by decide) (by decide) (by decide) rfl⟩)
                    · refine goodVal (fun m a w h hm ht => ?_)
                      have e9 := h.vals 9 _ rfl _ (ht.on 9 284 (by kernel_rfl) (by kernel_rfl))
                      exact ⟨.int .i64 (-1 - (zz.L 6 : Int)), w, (run_sub1 (.const (.int .i64 (-1))) (.tmp 284) rfl (-1) (zz.L 6 : Int) rfl e9).trans (by rw [show wrap64 (-1 - (zz.L 6 : Int)) = -1 - (zz.L 6 : Int) by unfold wrap64; omega]), h.rd 10 _ (by decide) (by decide) (by decide) rfl⟩
                    · refine goodVal (fun m a w h hm ht => ?_)
                      have e10 := h.vals 10 _ rfl _ (ht.on 10 285 (by kernel_rfl) (by kernel_rfl))
                      obtain ⟨hw, _, _⟩ := h.at0 hm
                      obtain rfl : w = wr.drew := hw
                      have hxa := ((Ext.refl (fun _ => False) wr).drew).alloc (.cells #[.int .i64 (-1 - (zz.L 6 : Int))] 3)
                      exact ⟨_, _, run_bld (.tmp 285) rfl _ e10, h.bld hm rfl (by decide) (by decide) (cellX hK0 hxa (fun h => h)) ⟨rfl, rfl⟩⟩
                    · refine goodVal (fun m a w h hm ht => ?_)
                      have m4 := ht.on 4 279 (by kernel_rfl) (by kernel_rfl)
                      have m11 := ht.on 11 286 (by kernel_rfl) (by kernel_rfl)
                      have e4 := h.vals 4 _ rfl _ m4
                      obtain ⟨⟨e11, hw⟩, _⟩ := h.at1 hm m11
                      have hxa := ((Ext.refl (fun _ => False) wr).drew).alloc (.cells #[.int .i64 (-1 - (zz.L 6 : Int))] 3)
                      have hsz : w.heap.size = wr.heap.size + 1 := by rw [hw]; simp
                      have hnc : w.cell? ⟨wr.heap.size, 0, none⟩ = some (.int .i64 (-1 - (zz.L 6 : Int))) := by rw [hw]; exact cell_new1 _ _ _ _ (by simp)
                      have hT3 : Own (Tg W tg 3) 3 w (zz.a 3) (zz.L 3) (zz.C 3) (zz.f 3) := by rw [hw]; exact (hm'.tab 3 tab3).ext hxa (fun _ _ h => h)
                      obtain ⟨a8, c8, w8, hrun, ho8, hx8, _⟩ := run_app (P := Try.prog) w 24 24 3 (.int .i64 0) 8 Try.underlying24 info3 rfl (Tg W tg 3) (zz.a 3) (zz.L 3) (zz.C 3) (zz.f 3) hT3 ⟨wr.heap.size, 0, none⟩ 1 (.int .i64 (-1 - (zz.L 6 : Int))) hnc rfl (by omega) (by omega)
                      rw [hsz] at ho8
                      rw [hw] at hx8
                      have hxb : Ext (Tg W tg 3) wr w8 := (hxa.mono (fun _ _ h => h.elim)).trans hx8 (fun _ _ h => h)
                      refine ⟨_, _, run_apd (.tmp 279) (.tmp 286) 24 rfl _ _ (by rw [e4, e11]; exact hrun), h.app hm m11 m4 rfl (by decide) (cellX hK0 hxb (fun h => by have := h.1; have := hbsl.2.2.1; omega)) ⟨a8, c8, rfl, ho8, hx8⟩⟩
                    · exact goodVal (fun m a w h hm ht => ⟨_, _, run_nil (.tmp 275) rfl _ (h.vals 0 _ rfl _ (ht.on 0 275 (by kernel_rfl) (by kernel_rfl))), h.rd 13 _ (by decide) (by decide) (by decide) rfl⟩)
                    · exact goodVal (fun m a w h hm ht => ⟨_, _, run_fld (.tmp 288) 3 (by decide) rfl bs (h.vals 13 _ rfl _ (ht.on 13 288 (by kernel_rfl) (by kernel_rfl))), h.rd 14 _ (by decide) (by decide) (by decide) rfl⟩)
                    · refine goodSkip (fun m a w h hm ht => ?_)
                      have e14 := h.vals 14 _ rfl _ (ht.on 14 289 (by kernel_rfl) (by kernel_rfl))
                      have m12 := ht.on 12 287 (by kernel_rfl) (by kernel_rfl)
                      obtain ⟨⟨a8, c8, e12, ho8, hx8⟩, _⟩ := h.at2 hm m12
                      obtain ⟨hc8, hf8, m8, s8⟩ := hm'.ap 3 tab3 (by omega) (-1 - (zz.L 6 : Int)) false (((Ext.refl (fun _ => False) wr).drew).alloc _) (by simp) ho8 hx8
                      have hk8 := m8.sl 6 (by omega) (by omega) (by omega)
                      exact ⟨_, run_sto 24 (by decide) (.tmp 289) (.tmp 287) rfl _ e14 _ _ _ e12 _ hc8 hf8, h.sto hm m12 rfl hk8 ⟨a8, c8, _, m8, s8⟩⟩
end
end Go.Proofs.Qxb6601557a
