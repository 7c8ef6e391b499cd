/-
  The region 'oAdj, oState, oDeg, .. := cs.ZZFold(copy, copy, copy, nil, .., make, ..)': its relation. By an AI agent.
-/
import Derived.Test.Qxb6601557aZZFold
import Derived.Test.Qxb6601557aPlain4
import Derived.Test.Qxb6601557aCopyAdj
namespace Go.Proofs.Qxb6601557a
set_option linter.unusedVariables false
open Go.RowKit

theorem Rd.nilF {S : Nat → Prop} {w : World} {a : Option Addr} {n : Nat} {f : Nat → Value} (h : Rd S w a n f) (ha : a = none) : n = 0 := by
  rcases Nat.eq_zero_or_pos n with h0 | h0
  · exact h0
  · obtain ⟨_, _, e, _⟩ := h 0 h0; rw [ha] at e; cases e
theorem RdAdj.nilF {S : Nat → Prop} {w : World} {a : Option Addr} {n : Nat} {d : Nat → Nat} {A : Nat → Nat → Int} (h : RdAdj S w a n d A) (ha : a = none) : n = 0 := by
  rcases Nat.eq_zero_or_pos n with h0 | h0
  · exact h0
  · obtain ⟨_, _, _, _, e, _⟩ := h 0 h0; rw [ha] at e; cases e

/-- what is copied. -/
structure Src4 (W : World) (n : Nat) (d : Nat → Nat) (N : Nat → Nat → Nat) (st dg : Nat → Int) (a0 a1 a2 : Option Addr) : Prop where
  adj : RdAdj (fun _ => True) W a0 n d (fun p i => (N p i : Int))
  sta : Rd (fun _ => True) W a1 n (fun j => .int .i8 (st j))
  deg : Rd (fun _ => True) W a2 n (fun j => .int .i64 (dg j))
  hn : n ≤ 131072
  hd : ∀ p, p < n → d p ≤ 131072

/-- what has been gathered by now. -/
structure GF4 (W w : World) (n : Nat) (d : Nat → Nat) (N : Nat → Nat → Nat) (st dg : Nat → Int) (tag : Nat → Nat) (oa os od oq : Option (Option Addr)) : Prop where
  ext : Ext (fun _ => False) W w
  adj : ∀ a, oa = some a → ∃ R : Nat → Option Addr, Own (Tg W tag 0) 24 w a n n (fun p => .slice (R p) (d p) (d p)) ∧ ∀ p, p < n → Rd (Tg W tag 12) w (R p) (d p) (fun i => .int .i64 (N p i : Int))
  sta : ∀ a, os = some a → Own (Tg W tag 1) 39 w a n n (fun j => .int .i8 (st j))
  deg : ∀ a, od = some a → Own (Tg W tag 2) 3 w a n n (fun j => .int .i64 (dg j))
  que : ∀ a, oq = some a → Own (Tg W tag 8) 4 w a n n (fun _ => .bool false)

section
variable {W w w' : World} {n : Nat} {d : Nat → Nat} {N : Nat → Nat → Nat} {st dg : Nat → Int} {tag tag' : Nat → Nat} {oa os od oq : Option (Option Addr)} {a0 a1 a2 : Option Addr}

theorem GF4.later (h : GF4 W w n d N st dg tag oa os od oq) (hx : Ext (fun _ => False) w w') (ht : ∀ k, k < w.heap.size → tag' k = tag k) : GF4 W w' n d N st dg tag' oa os od oq :=
  ⟨h.ext.trans hx (fun _ _ h => h), fun a ha => by
    obtain ⟨R, h1, h2⟩ := h.adj a ha
    exact ⟨R, h1.tagged hx (fun _ _ h => h) ht, fun p hp => (h2 p hp).tagged hx (fun _ _ h => h) ht⟩,
   fun a ha => (h.sta a ha).tagged hx (fun _ _ h => h) ht, fun a ha => (h.deg a ha).tagged hx (fun _ _ h => h) ht, fun a ha => (h.que a ha).tagged hx (fun _ _ h => h) ht⟩

theorem tagNew {w : World} {tag : Nat → Nat} {j : Nat} (k : Nat) (hk : k < w.heap.size) : (fun k => if k < w.heap.size then tag k else j) k = tag k := if_pos hk

theorem GF4.c14 (h : GF4 W w n d N st dg tag oa none od oq) (g : Src4 W n d N st dg a0 a1 a2) (c : Nat) :
    Calls Try.prog 14 #[.slice a1 n c] w fun e w' => ∃ a' tag', e = .returned (.slice a' n n) ∧ GF4 W w' n d N st dg tag' oa (some a') od oq := by
  have hg := g.sta.ext h.ext (fun _ _ h => h)
  refine (copyInt8s_any _ a1 n c st w (by have := g.hn; omega) hg hg.nilF).mono ?_
  rintro e w' ⟨a', rfl, hc⟩
  have h2 := h.later (tag' := fun k => if k < w.heap.size then tag k else 1) hc.ext tagNew
  refine ⟨a', _, rfl, h2.ext, h2.adj, fun a ha => ?_, h2.deg, h2.que⟩
  injection ha with ha
  subst ha
  exact hc.own.mono (fun k hk => ⟨by show (if k < w.heap.size then tag k else 1) = 1; rw [if_neg (by omega)], by have := h.ext.size; omega⟩)

theorem GF4.c15 (h : GF4 W w n d N st dg tag oa os none oq) (g : Src4 W n d N st dg a0 a1 a2) (c : Nat) :
    Calls Try.prog 15 #[.slice a2 n c] w fun e w' => ∃ a' tag', e = .returned (.slice a' n n) ∧ GF4 W w' n d N st dg tag' oa os (some a') oq := by
  have hg := g.deg.ext h.ext (fun _ _ h => h)
  refine (copyInts_any _ a2 n c dg w (by have := g.hn; omega) hg hg.nilF).mono ?_
  rintro e w' ⟨a', rfl, hc⟩
  have h2 := h.later (tag' := fun k => if k < w.heap.size then tag k else 2) hc.ext tagNew
  refine ⟨a', _, rfl, h2.ext, h2.adj, h2.sta, fun a ha => ?_, h2.que⟩
  injection ha with ha
  subst ha
  exact hc.own.mono (fun k hk => ⟨by show (if k < w.heap.size then tag k else 2) = 2; rw [if_neg (by omega)], by have := h.ext.size; omega⟩)

theorem GF4.c13 (h : GF4 W w n d N st dg tag none os od oq) (g : Src4 W n d N st dg a0 a1 a2) (c : Nat) :
    Calls Try.prog 13 #[.slice a0 n c] w fun e w' => ∃ a' tag', e = .returned (.slice a' n n) ∧ GF4 W w' n d N st dg tag' (some a') os od oq := by
  have hg := g.adj.ext h.ext (fun _ _ h => h)
  refine (copyAdj_any _ a0 n c d _ w (by have := g.hn; omega) (fun p hp => by have := g.hd p hp; omega) hg hg.nilF).mono ?_
  rintro e w' ⟨a', rfl, hc⟩
  have h2 := h.later (tag' := fun k => if k < w.heap.size then tag k else if k = w.heap.size then 0 else 12) hc.ext (fun k hk => if_pos hk)
  refine ⟨a', _, rfl, h2.ext, fun a ha => ?_, h2.sta, h2.deg, h2.que⟩
  injection ha with ha
  subst ha
  have hs := h.ext.size
  obtain ⟨R, h3, h4⟩ := hc.own
  refine ⟨R, h3.mono (fun k hk => ⟨?_, by omega⟩), fun p hp => (h4 p hp).rd.mono (fun k hk => ⟨?_, by omega⟩)⟩
  · show (if k < w.heap.size then tag k else if k = w.heap.size then 0 else 12) = 0
    rw [if_neg (by omega), if_pos hk]
  · show (if k < w.heap.size then tag k else if k = w.heap.size then 0 else 12) = 12
    rw [if_neg (by omega), if_neg (by omega)]

theorem run_mk4 (w : World) (n : Nat) (hn : n ≤ 131072) : ∃ w', (Instr.makeSlice 26 (.int .i64 (n : Int)) (.int .i64 (n : Int))).run Try.prog w = .ok (.slice (some ⟨w.heap.size, 0, none⟩) n n) w' ∧ Own (fun k => k = w.heap.size) 4 w' (some ⟨w.heap.size, 0, none⟩) n n (fun _ => .bool false) ∧ Ext (fun _ => False) w w' ∧ w'.heap.size = w.heap.size + 1 :=
  run_mk (P := Try.prog) w 26 4 (.bool false) 1 Try.underlying26 info4 rfl n (by omega) (by omega)

theorem GF4.make (h : GF4 W w n d N st dg tag oa os od none) (hn : n ≤ 131072) : ∃ a' tag' w', (Instr.makeSlice 26 (.int .i64 (n : Int)) (.int .i64 (n : Int))).run Try.prog w = .ok (.slice a' n n) w' ∧ GF4 W w' n d N st dg tag' oa os od (some a') := by
  obtain ⟨w', hr, ho, hx, _⟩ := run_mk4 w n hn
  have h2 := h.later (tag' := fun k => if k < w.heap.size then tag k else 8) hx tagNew
  refine ⟨_, _, w', hr, h2.ext, h2.adj, h2.sta, h2.deg, fun a ha => ?_⟩
  injection ha with ha
  subst ha
  exact ho.mono (fun k hk => ⟨by show (if k < w.heap.size then tag k else 8) = 8; rw [if_neg (by omega)], by have := h.ext.size; omega⟩)

/-- the search that ZZFold is handed. -/
def xF (n : Nat) (a0 a1 a2 a8 : Option Addr) (R : Nat → Option Addr) (d : Nat → Nat) (N : Nat → Nat → Nat) (st dg : Nat → Int) : FA :=
  { L := fun j => if j = 0 ∨ j = 1 ∨ j = 2 ∨ j = 8 then n else 0, C := fun j => if j = 0 ∨ j = 1 ∨ j = 2 ∨ j = 8 then n else 0, a := fun j => if j = 0 then a0 else if j = 1 then a1 else if j = 2 then a2 else if j = 8 then a8 else none, R := R, rc := d, d := d, N := N, st := st, dg := dg, tr := fun _ => 0, tu := fun _ => 0, qu := fun _ => false, ma := fun _ => 0, sd := fun _ => 0, sc := fun _ => 0, F := fun _ _ => 0, s4 := 0, s5 := 0 }

/-- what is known behind ZZFold. -/
def P19 (W : World) (n : Nat) (d : Nat → Nat) (N : Nat → Nat → Nat) (st dg : Nat → Int) (v u w : Nat) (tv : Nat → Value) (w' : World) : Prop :=
  ∃ tag' x x' nm mk y bs, (x.d = d ∧ x.N = N ∧ x.st = st ∧ x.dg = dg) ∧ FM W tag' w' bs x' ∧ Ext (fun _ => False) W w' ∧ FoldR n x x' v u w nm mk y ∧ Made n d N (fun q => decide (q ≠ v) && decide (st q = 0)) u w nm mk ∧
    tv 0 = .slice (x'.a 0) (x'.L 0) (x'.C 0) ∧ tv 1 = .slice (x'.a 1) (x'.L 1) (x'.C 1) ∧ tv 2 = .slice (x'.a 2) (x'.L 2) (x'.C 2)

def tup11 (tv : Nat → Value) : Array Value := #[tv 0, tv 1, tv 2, tv 3, tv 4, tv 5, tv 6, tv 7, tv 8, tv 9, tv 10]

theorem GF4.c19 {b0 b1 b2 b8 : Option Addr} (h : GF4 W w n d N st dg tag (some b0) (some b1) (some b2) (some b8)) (hn : n ≤ 131072) (hgr : GN n d N) {v u w2 iu iw : Nat} (ht : Two n d N st v u w2 iu iw) :
    Calls Try.prog 19 #[.slice b0 n n, .slice b1 n n, .slice b2 n n, .slice none 0 0, .int .i64 0, .int .i64 0, .slice none 0 0, .slice none 0 0, .slice b8 n n, .slice none 0 0, .slice none 0 0, .slice none 0 0, .int .i64 v] w fun e w' => ∃ tv, e = .returned (.tuple (tup11 tv)) ∧ P19 W n d N st dg v u w2 tv w' := by
  obtain ⟨R, hA1, hA2⟩ := h.adj b0 rfl
  have hFT : FT W tag w (xF n b0 b1 b2 b8 R d N st dg) := by
    refine ⟨fun j hj => ?_, .inl ⟨rfl, rfl, rfl⟩, fun p hp => hA2 p hp, h.ext.size⟩
    match j, hj.lt, hj with
    | 0, _, _ => exact hA1
    | 1, _, _ => exact h.sta b1 rfl
    | 2, _, _ => exact h.deg b2 rfl
    | 3, _, _ => exact .inl ⟨rfl, rfl, rfl⟩
    | 4, _, hj => exact absurd rfl hj.n4
    | 5, _, hj => exact absurd rfl hj.n5
    | 6, _, hj => exact absurd rfl hj.n6
    | 7, _, _ => exact .inl ⟨rfl, rfl, rfl⟩
    | 8, _, _ => exact h.que b8 rfl
    | 9, _, _ => exact .inl ⟨rfl, rfl, rfl⟩
    | 10, _, _ => exact .inl ⟨rfl, rfl, rfl⟩
    | 11, _, _ => exact .inl ⟨rfl, rfl, rfl⟩
  have hin : FoldIn n (xF n b0 b1 b2 b8 R d N st dg) v u w2 iu iw :=
    ⟨rfl, rfl, rfl, rfl, hn, hgr, fun _ _ => rfl, ht, Nat.zero_le _, Nat.zero_le _, Nat.zero_le _, Nat.zero_le _, Nat.zero_le _, Nat.zero_le _⟩
  have hz := zzfold_any hFT n v u w2 iu iw hin rfl rfl rfl
  refine Calls.mono hz ?_
  rintro e w' ⟨tag', x', nm, mk, y, aO, cO, F, bs, rfl, hM, hR, hMd⟩
  refine ⟨fun k => match k with | 0 => .slice (x'.a 0) (x'.L 0) (x'.C 0) | 1 => .slice (x'.a 1) (x'.L 1) (x'.C 1) | 2 => .slice (x'.a 2) (x'.L 2) (x'.C 2) | 3 => .slice (x'.a 3) (x'.L 3) (x'.C 3) | 4 => .int .i64 x'.s4 | 5 => .slice aO (x'.L 6) cO | 6 => .slice (x'.a 7) (x'.L 7) (x'.C 7) | 7 => .slice (x'.a 8) (x'.L 8) (x'.C 8) | 8 => .slice (x'.a 9) (x'.L 9) (x'.C 9) | 9 => .slice (x'.a 10) (x'.L 10) (x'.C 10) | _ => .slice (x'.a 11) (x'.L 11) (x'.C 11), rfl, tag', xF n b0 b1 b2 b8 R d N st dg, x', nm, mk, y, bs, ⟨rfl, rfl, rfl, rfl⟩, hM.fm, h.ext.trans hM.ext (fun i hi h1 => by omega), hR, hMd, rfl, rfl, rfl⟩
end

section
variable (W : World) (n : Nat) (d : Nat → Nat) (N : Nat → Nat → Nat) (st dg : Nat → Int) (b0 b1 b2 : Option Addr) (v u w2 : Nat)

structure C4Pre (m : Nat → Option Value) (w : World) (tag : Nat → Nat) (oa os od oq : Option (Option Addr)) : Prop where
  gf : GF4 W w n d N st dg tag oa os od oq
  m1 : m 1 = oa.map (fun a => .slice a n n)
  m3 : m 3 = os.map (fun a => .slice a n n)
  m5 : m 5 = od.map (fun a => .slice a n n)
  m7 : m 7 = oq.map (fun a => .slice a n n)
  rest : ∀ i, 9 ≤ i → m i = none

structure C4Post (m : Nat → Option Value) (w : World) (tv : Nat → Value) : Prop where
  res : P19 W n d N st dg v u w2 tv w
  m1 : m 1 ≠ none
  m3 : m 3 ≠ none
  m5 : m 5 ≠ none
  m7 : m 7 ≠ none
  m9 : m 9 = some (.tuple (tup11 tv))
  m10 : IsV m 10 (.tuple (tup11 tv))
  ex : ∀ k, k < 11 → IsV m (11 + k) (tv k)
  asn : ∀ k, k < 11 → IsV m (22 + k) (tv k)

structure RF4 (m : Nat → Option Value) (w : World) : Prop where
  m0 : IsV m 0 (.slice b0 n n)
  m2 : IsV m 2 (.slice b1 n n)
  m4 : IsV m 4 (.slice b2 n n)
  m6 : IsV m 6 (.int .i64 (n : Int))
  m8 : IsV m 8 (.int .i64 (v : Int))
  ph : (∃ tag oa os od oq, C4Pre W n d N st dg m w tag oa os od oq) ∨ ∃ tv, C4Post W n d N st dg v u w2 m w tv
end

section
variable {W : World} {n : Nat} {d : Nat → Nat} {N : Nat → Nat → Nat} {st dg : Nat → Int} {b0 b1 b2 : Option Addr} {v u w2 : Nat} {m : Nat → Option Value} {w : World}

theorem RF4.start : RF4 W n d N st dg b0 b1 b2 v u w2 (fun _ => none) W.drew :=
  ⟨fun u h => (by cases h), fun u h => (by cases h), fun u h => (by cases h), fun u h => (by cases h), fun u h => (by cases h),
    .inl ⟨fun _ => 0, none, none, none, none, ⟨(Ext.refl _ _).drew, fun a h => (by cases h), fun a h => (by cases h), fun a h => (by cases h), fun a h => (by cases h)⟩, rfl, rfl, rfl, rfl, fun _ _ => rfl⟩⟩

theorem IsV.off {m : Nat → Option Value} {i k : Nat} {u x : Value} (h : IsV m k x) (hk : k ≠ i) : IsV (updO m i u) k x := h.all (fun e => absurd e.symm hk)

theorem RF4.mv (h : RF4 W n d N st dg b0 b1 b2 v u w2 m w) (i : Nat) (x : Value) (hi : i < 9) (h1 : i ≠ 1) (h3 : i ≠ 3) (h5 : i ≠ 5) (h7 : i ≠ 7)
    (u0 : i = 0 → x = .slice b0 n n) (u2 : i = 2 → x = .slice b1 n n) (u4 : i = 4 → x = .slice b2 n n) (u6 : i = 6 → x = .int .i64 (n : Int)) (u8 : i = 8 → x = .int .i64 (v : Int)) :
    RF4 W n d N st dg b0 b1 b2 v u w2 (updO m i x) w := by
  refine ⟨h.m0.all u0, h.m2.all u2, h.m4.all u4, h.m6.all u6, h.m8.all u8, ?_⟩
  rcases h.ph with ⟨tag, oa, os, od, oq, hp⟩ | ⟨tv, hp⟩
  · exact .inl ⟨tag, oa, os, od, oq, hp.gf, by rw [updO_off (Ne.symm h1)]; exact hp.m1, by rw [updO_off (Ne.symm h3)]; exact hp.m3, by rw [updO_off (Ne.symm h5)]; exact hp.m5, by rw [updO_off (Ne.symm h7)]; exact hp.m7, fun k hk => by rw [updO_off (by omega)]; exact hp.rest k hk⟩
  · exact .inr ⟨tv, hp.res, updO_ne hp.m1, updO_ne hp.m3, updO_ne hp.m5, updO_ne hp.m7, by rw [updO_off (by omega)]; exact hp.m9, hp.m10.off (by omega), fun k hk => (hp.ex k hk).off (by omega), fun k hk => (hp.asn k hk).off (by omega)⟩

theorem RF4.call1 (h : RF4 W n d N st dg b0 b1 b2 v u w2 m w) (g : Src4 W n d N st dg b0 b1 b2) (hm : m 1 = none) : Calls Try.prog 13 #[.slice b0 n n] w fun e w' => ∃ x, e = .returned x ∧ RF4 W n d N st dg b0 b1 b2 v u w2 (updO m 1 x) w' := by
  rcases h.ph with ⟨tag, oa, os, od, oq, hp⟩ | ⟨tv, hp⟩
  · obtain rfl : oa = none := by have := hp.m1; rw [hm] at this; cases oa <;> simp at this; rfl
    refine (hp.gf.c13 g n).mono ?_
    rintro e w' ⟨a', tag', rfl, hr⟩
    exact ⟨_, rfl, h.m0.off (by omega), h.m2.off (by omega), h.m4.off (by omega), h.m6.off (by omega), h.m8.off (by omega), .inl ⟨tag', some a', os, od, oq, hr, updO_eq, by rw [updO_off (by omega)]; exact hp.m3, by rw [updO_off (by omega)]; exact hp.m5, by rw [updO_off (by omega)]; exact hp.m7, fun k hk => by rw [updO_off (by omega)]; exact hp.rest k hk⟩⟩
  · exact absurd hm hp.m1

theorem RF4.call3 (h : RF4 W n d N st dg b0 b1 b2 v u w2 m w) (g : Src4 W n d N st dg b0 b1 b2) (hm : m 3 = none) : Calls Try.prog 14 #[.slice b1 n n] w fun e w' => ∃ x, e = .returned x ∧ RF4 W n d N st dg b0 b1 b2 v u w2 (updO m 3 x) w' := by
  rcases h.ph with ⟨tag, oa, os, od, oq, hp⟩ | ⟨tv, hp⟩
  · obtain rfl : os = none := by have := hp.m3; rw [hm] at this; cases os <;> simp at this; rfl
    refine (hp.gf.c14 g n).mono ?_
    rintro e w' ⟨a', tag', rfl, hr⟩
    exact ⟨_, rfl, h.m0.off (by omega), h.m2.off (by omega), h.m4.off (by omega), h.m6.off (by omega), h.m8.off (by omega), .inl ⟨tag', oa, some a', od, oq, hr, by rw [updO_off (by omega)]; exact hp.m1, updO_eq, by rw [updO_off (by omega)]; exact hp.m5, by rw [updO_off (by omega)]; exact hp.m7, fun k hk => by rw [updO_off (by omega)]; exact hp.rest k hk⟩⟩
  · exact absurd hm hp.m3

theorem RF4.call5 (h : RF4 W n d N st dg b0 b1 b2 v u w2 m w) (g : Src4 W n d N st dg b0 b1 b2) (hm : m 5 = none) : Calls Try.prog 15 #[.slice b2 n n] w fun e w' => ∃ x, e = .returned x ∧ RF4 W n d N st dg b0 b1 b2 v u w2 (updO m 5 x) w' := by
  rcases h.ph with ⟨tag, oa, os, od, oq, hp⟩ | ⟨tv, hp⟩
  · obtain rfl : od = none := by have := hp.m5; rw [hm] at this; cases od <;> simp at this; rfl
    refine (hp.gf.c15 g n).mono ?_
    rintro e w' ⟨a', tag', rfl, hr⟩
    exact ⟨_, rfl, h.m0.off (by omega), h.m2.off (by omega), h.m4.off (by omega), h.m6.off (by omega), h.m8.off (by omega), .inl ⟨tag', oa, os, some a', oq, hr, by rw [updO_off (by omega)]; exact hp.m1, by rw [updO_off (by omega)]; exact hp.m3, updO_eq, by rw [updO_off (by omega)]; exact hp.m7, fun k hk => by rw [updO_off (by omega)]; exact hp.rest k hk⟩⟩
  · exact absurd hm hp.m5

theorem RF4.make7 (h : RF4 W n d N st dg b0 b1 b2 v u w2 m w) (hn : n ≤ 131072) (hm : m 7 = none) : ∃ x w', (Instr.makeSlice 26 (.int .i64 (n : Int)) (.int .i64 (n : Int))).run Try.prog w = .ok x w' ∧ RF4 W n d N st dg b0 b1 b2 v u w2 (updO m 7 x) w' := by
  rcases h.ph with ⟨tag, oa, os, od, oq, hp⟩ | ⟨tv, hp⟩
  · obtain rfl : oq = none := by have := hp.m7; rw [hm] at this; cases oq <;> simp at this; rfl
    obtain ⟨a', tag', w', hrun, hr⟩ := hp.gf.make hn
    exact ⟨_, _, hrun, h.m0.off (by omega), h.m2.off (by omega), h.m4.off (by omega), h.m6.off (by omega), h.m8.off (by omega), .inl ⟨tag', oa, os, od, some a', hr, by rw [updO_off (by omega)]; exact hp.m1, by rw [updO_off (by omega)]; exact hp.m3, by rw [updO_off (by omega)]; exact hp.m5, updO_eq, fun k hk => by rw [updO_off (by omega)]; exact hp.rest k hk⟩⟩
  · exact absurd hm hp.m7

theorem RF4.call9 {iu iw : Nat} (h : RF4 W n d N st dg b0 b1 b2 v u w2 m w) (hn : n ≤ 131072) (hgr : GN n d N) (ht : Two n d N st v u w2 iu iw) (hm : m 9 = none) {u1 u3 u5 u7 : Value} (e1 : m 1 = some u1) (e3 : m 3 = some u3) (e5 : m 5 = some u5) (e7 : m 7 = some u7) :
    Calls Try.prog 19 #[u1, u3, u5, .slice none 0 0, .int .i64 0, .int .i64 0, .slice none 0 0, .slice none 0 0, u7, .slice none 0 0, .slice none 0 0, .slice none 0 0, .int .i64 v] w fun e w' => ∃ x, e = .returned x ∧ RF4 W n d N st dg b0 b1 b2 v u w2 (updO m 9 x) w' := by
  rcases h.ph with ⟨tag, oa, os, od, oq, hp⟩ | ⟨tv, hp⟩
  · have k1 := hp.m1; have k3 := hp.m3; have k5 := hp.m5; have k7 := hp.m7
    rw [e1] at k1; rw [e3] at k3; rw [e5] at k5; rw [e7] at k7
    cases oa with
    | none => simp at k1
    | some a1 => cases os with
      | none => simp at k3
      | some a3 => cases od with
        | none => simp at k5
        | some a5 => cases oq with
          | none => simp at k7
          | some a7 =>
            simp at k1 k3 k5 k7
            subst k1 k3 k5 k7
            refine (hp.gf.c19 hn hgr ht).mono ?_
            rintro e w' ⟨tv, rfl, hr⟩
            have hz : ∀ k, 10 ≤ k → ∀ x, IsV (updO m 9 (.tuple (tup11 tv))) k x := by
              intro k hk x y hy
              rw [updO_off (by omega), hp.rest k (by omega)] at hy
              cases hy
            exact ⟨_, rfl, h.m0.off (by omega), h.m2.off (by omega), h.m4.off (by omega), h.m6.off (by omega), h.m8.off (by omega), .inr ⟨tv, hr, updO_ne (by rw [e1]; simp), updO_ne (by rw [e3]; simp), updO_ne (by rw [e5]; simp), updO_ne (by rw [e7]; simp), updO_eq, hz 10 (by omega) _, fun k _ => hz _ (by omega) _, fun k _ => hz _ (by omega) _⟩⟩
  · rw [hp.m9] at hm; cases hm

theorem RF4.out (h : RF4 W n d N st dg b0 b1 b2 v u w2 m w) {k : Nat} {x : Value} (hm : m k = some x) (hk : 9 ≤ k) : ∃ tv, C4Post W n d N st dg v u w2 m w tv := by
  rcases h.ph with ⟨tag, oa, os, od, oq, hp⟩ | hp
  · rw [hp.rest k hk] at hm; cases hm
  · exact hp

theorem RF4.put {tv : Nat → Value} (h : RF4 W n d N st dg b0 b1 b2 v u w2 m w) (hp : C4Post W n d N st dg v u w2 m w tv) (i : Nat) (x : Value) (hi : 10 ≤ i) (u10 : i = 10 → x = .tuple (tup11 tv)) (ue : ∀ k, k < 11 → i = 11 + k → x = tv k) (ua : ∀ k, k < 11 → i = 22 + k → x = tv k) :
    RF4 W n d N st dg b0 b1 b2 v u w2 (updO m i x) w :=
  ⟨h.m0.off (by omega), h.m2.off (by omega), h.m4.off (by omega), h.m6.off (by omega), h.m8.off (by omega), .inr ⟨tv, hp.res, updO_ne hp.m1, updO_ne hp.m3, updO_ne hp.m5, updO_ne hp.m7, by rw [updO_off (by omega)]; exact hp.m9, hp.m10.all u10, fun k hk => (hp.ex k hk).all (fun e => ue k hk e), fun k hk => (hp.asn k hk).all (fun e => ua k hk e)⟩⟩

/-- an extract. -/
theorem RF4.ext (h : RF4 W n d N st dg b0 b1 b2 v u w2 m w) (k : Nat) (hk : k < 11) {x : Value} (e : m 10 = some x) : ∃ vs y, x = .tuple vs ∧ vs[k]? = some y ∧ RF4 W n d N st dg b0 b1 b2 v u w2 (updO m (11 + k) y) w := by
  obtain ⟨tv, hp⟩ := h.out e (by omega)
  have hx := hp.m10 _ e
  refine ⟨tup11 tv, tv k, hx, ?_, h.put hp (11 + k) (tv k) (by omega) (fun e => by omega) (fun j hj e => by rw [show k = j by omega]) (fun j hj e => by omega)⟩
  match k, hk with
  | 0, _ => rfl
  | 1, _ => rfl
  | 2, _ => rfl
  | 3, _ => rfl
  | 4, _ => rfl
  | 5, _ => rfl
  | 6, _ => rfl
  | 7, _ => rfl
  | 8, _ => rfl
  | 9, _ => rfl
  | 10, _ => rfl

theorem RF4.asg (h : RF4 W n d N st dg b0 b1 b2 v u w2 m w) (k : Nat) (hk : k < 11) {x : Value} (e : m (11 + k) = some x) : RF4 W n d N st dg b0 b1 b2 v u w2 (updO m (22 + k) x) w := by
  obtain ⟨tv, hp⟩ := h.out e (by omega)
  have hx := hp.ex k hk _ e
  exact h.put hp (22 + k) x (by omega) (fun e => by omega) (fun j hj e => by omega) (fun j hj e => by rw [hx, show k = j by omega])

theorem RF4.end_ {vv : Nat → Value} (h : RF4 W n d N st dg b0 b1 b2 v u w2 (fun i => if i < 33 then some (vv i) else none) w) : ∃ tv, P19 W n d N st dg v u w2 tv w ∧ vv 22 = tv 0 ∧ vv 23 = tv 1 ∧ vv 24 = tv 2 := by
  obtain ⟨tv, hp⟩ := h.out (k := 9) (x := vv 9) (by simp) (by omega)
  exact ⟨tv, hp.res, hp.asn 0 (by omega) _ (by simp), hp.asn 1 (by omega) _ (by simp), hp.asn 2 (by omega) _ (by simp)⟩
end
end Go.Proofs.Qxb6601557a
