/-
  The region 'oAdj, .. := cs.ZZFold(copies ..)' of FnFoldMatchesModel: its relation. By an AI agent.
-/
import Derived.Test.Qxb6601557aZZFoldG
import Derived.Test.Qxb6601557aReg4
namespace Go.Proofs.Qxb6601557a
set_option linter.unusedVariables false
open Go.RowKit

/-- the fields that are copied. -/
def isFd (j : Nat) : Bool := decide (j < 12) && !decide (j = 4) && !decide (j = 5)
/-- the operation of the region that copies field j. -/
def opIx : Nat → Nat
  | 0 => 1
  | 1 => 3
  | 2 => 5
  | 3 => 7
  | 6 => 10
  | 7 => 12
  | 8 => 14
  | 9 => 16
  | 10 => 18
  | 11 => 20
  | _ => 99

theorem opIx_inj : ∀ j, j < 12 → ∀ k, k < 12 → isFd j = true → isFd k = true → opIx j = opIx k → j = k := by decide
theorem opIx_lt : ∀ j, j < 12 → isFd j = true → opIx j < 22 := by decide
theorem isFd_lt {j : Nat} (h : isFd j = true) : j < 12 := by simp [isFd] at h; omega
theorem isFd_tab {j : Nat} (h : IsTab j) : isFd j = true := by simp [isFd, h.lt, h.n4, h.n5]

def updF {α : Type} (o : Nat → Option α) (j : Nat) (a : α) : Nat → Option α := fun k => if k = j then some a else o k

/-- how long field j is. -/
def len3 (X : FA) (nF j : Nat) : Nat := if j = 6 then nF else X.L j

structure Src3 (W : World) (n nF : Nat) (X : FA) (F0 : Nat → Nat → Int) (b : Nat → Option Addr) : Prop where
  adj : RdAdj (fun _ => True) W (b 0) n X.d (fun p i => (X.N p i : Int))
  tab : ∀ j, IsTab j → j ≠ 0 → Rd (fun _ => True) W (b j) (X.L j) (X.f j)
  fo : Rd4 (fun _ => True) W (b 6) nF F0
  l0 : X.L 0 = n
  hn : n ≤ 131072
  hd : ∀ p, p < n → X.d p ≤ 131072
  hL : ∀ j, IsTab j → X.L j ≤ 1048576
  hF : nF ≤ 32768

structure GF3 (W w : World) (n nF : Nat) (X : FA) (F0 : Nat → Nat → Int) (tag : Nat → Nat) (o : Nat → Option (Option Addr)) : Prop where
  ext : Ext (fun _ => False) W w
  adj : ∀ a, o 0 = some a → ∃ R : Nat → Option Addr, Own (Tg W tag 0) 24 w a n n (fun p => .slice (R p) (X.d p) (X.d p)) ∧ ∀ p, p < n → Rd (Tg W tag 12) w (R p) (X.d p) (fun i => .int .i64 (X.N p i : Int))
  tab : ∀ j, IsTab j → j ≠ 0 → ∀ a, o j = some a → Own (Tg W tag j) (fty j) w a (X.L j) (X.L j) (X.f j)
  fo : ∀ a, o 6 = some a → Own4 (Tg W tag 18) 42 w a nF nF F0

section
variable {W w w' : World} {n nF : Nat} {X : FA} {F0 : Nat → Nat → Int} {tag tag' : Nat → Nat} {o : Nat → Option (Option Addr)} {b : Nat → Option Addr}

theorem GF3.later (h : GF3 W w n nF X F0 tag o) (hx : Ext (fun _ => False) w w') (ht : ∀ k, k < w.heap.size → tag' k = tag k) : GF3 W w' n nF X F0 tag' o :=
  ⟨h.ext.trans hx (fun _ _ h => h), fun a ha => by
    obtain ⟨R, h1, h2⟩ := h.adj a ha
    exact ⟨R, h1.tagged hx (fun _ _ h => h) ht, fun p hp => (h2 p hp).tagged hx (fun _ _ h => h) ht⟩,
   fun j hj h0 a ha => (h.tab j hj h0 a ha).tagged hx (fun _ _ h => h) ht, fun a ha => (h.fo a ha).tagged hx (fun _ _ h => h) ht⟩

theorem GF3.addT (h : GF3 W w n nF X F0 tag o) (j : Nat) (hj : IsTab j) (h0 : j ≠ 0) {a a' : Option Addr} (hc : Copied (fty j) w w' a a' (X.L j) (X.f j)) : ∃ tag', GF3 W w' n nF X F0 tag' (updF o j a') := by
  have h2 := h.later (tag' := fun k => if k < w.heap.size then tag k else j) hc.ext tagNew
  have hs := h.ext.size
  refine ⟨fun k => if k < w.heap.size then tag k else j, h2.ext, fun a ha => ?_, fun k hk hk0 a ha => ?_, fun a ha => ?_⟩
  · rw [updF, if_neg (Ne.symm h0)] at ha; exact h2.adj a ha
  · unfold updF at ha
    by_cases e : k = j
    · subst e
      rw [if_pos rfl] at ha
      injection ha with ha
      subst ha
      exact hc.own.mono (fun i hi => ⟨by show (if i < w.heap.size then tag i else k) = k; rw [if_neg (by omega)], by omega⟩)
    · rw [if_neg e] at ha; exact h2.tab k hk hk0 a ha
  · rw [updF, if_neg (Ne.symm hj.n6)] at ha; exact h2.fo a ha

theorem GF3.add0 (h : GF3 W w n nF X F0 tag o) {a a' : Option Addr} (hc : CopiedAdj w w' a a' n X.d (fun p i => (X.N p i : Int))) : ∃ tag', GF3 W w' n nF X F0 tag' (updF o 0 a') := by
  have h2 := h.later (tag' := fun k => if k < w.heap.size then tag k else if k = w.heap.size then 0 else 12) hc.ext (fun k hk => if_pos hk)
  have hs := h.ext.size
  refine ⟨fun k => if k < w.heap.size then tag k else if k = w.heap.size then 0 else 12, h2.ext, fun a ha => ?_, fun k hk hk0 a ha => ?_, fun a ha => ?_⟩
  · rw [updF, if_pos rfl] at ha
    injection ha with ha
    subst ha
    obtain ⟨R, h3, h4⟩ := hc.own
    refine ⟨R, h3.mono (fun k hk => ⟨?_, by omega⟩), fun p hp => (h4 p hp).rd.mono (fun k hk => ⟨?_, by omega⟩)⟩
    · show (if k < w.heap.size then tag k else if k = w.heap.size then 0 else 12) = 0
      rw [if_neg (by omega), if_pos hk]
    · show (if k < w.heap.size then tag k else if k = w.heap.size then 0 else 12) = 12
      rw [if_neg (by omega), if_neg (by omega)]
  · rw [updF, if_neg hk0] at ha; exact h2.tab k hk hk0 a ha
  · rw [updF, if_neg (by omega)] at ha; exact h2.fo a ha

theorem GF3.add6 (h : GF3 W w n nF X F0 tag o) {a a' : Option Addr} (hc : Copied4 w w' a a' nF F0) : ∃ tag', GF3 W w' n nF X F0 tag' (updF o 6 a') := by
  have h2 := h.later (tag' := fun k => if k < w.heap.size then tag k else 18) hc.ext tagNew
  have hs := h.ext.size
  refine ⟨fun k => if k < w.heap.size then tag k else 18, h2.ext, fun a ha => ?_, fun k hk hk0 a ha => ?_, fun a ha => ?_⟩
  · rw [updF, if_neg (by omega)] at ha; exact h2.adj a ha
  · rw [updF, if_neg hk.n6] at ha; exact h2.tab k hk hk0 a ha
  · rw [updF, if_pos rfl] at ha
    injection ha with ha
    subst ha
    rcases hc.own with ho | ⟨g, cur, e, hS, r⟩
    · exact .inl ho
    · exact .inr ⟨g, cur, e, ⟨by show (if g < w.heap.size then tag g else 18) = 18; rw [if_neg (by omega)], by omega⟩, r⟩

/-- the three ways of copying a table. -/
theorem GF3.cT (h : GF3 W w n nF X F0 tag o) (g : Src3 W n nF X F0 b) (c : Nat) (j f : Nat) (hj : IsTab j) (h0 : j ≠ 0) (hf : (j = 1 ∨ j = 10) ∧ f = 14 ∨ (j = 2 ∨ j = 3 ∨ j = 7 ∨ j = 9 ∨ j = 11) ∧ f = 15 ∨ j = 8 ∧ f = 17) :
    Calls Try.prog f #[.slice (b j) (X.L j) c] w fun e w' => ∃ a', e = .returned (.slice a' (X.L j) (X.L j)) ∧ ∃ tag', GF3 W w' n nF X F0 tag' (updF o j a') := by
  have hg := (g.tab j hj h0).ext h.ext (fun _ _ h => h)
  have hL := g.hL j hj
  have key : Calls Try.prog f #[.slice (b j) (X.L j) c] w fun e w' => ∃ a', e = .returned (.slice a' (X.L j) (X.L j)) ∧ Copied (fty j) w w' (b j) a' (X.L j) (X.f j) := by
    rcases hf with ⟨rfl | rfl, rfl⟩ | ⟨rfl | rfl | rfl | rfl | rfl, rfl⟩ | ⟨rfl, rfl⟩
    · exact copyInt8s_any _ (b 1) (X.L 1) c X.st w (by omega) hg hg.nilF
    · exact copyInt8s_any _ (b 10) (X.L 10) c X.sd w (by omega) hg hg.nilF
    · exact copyInts_any _ (b 2) (X.L 2) c X.dg w (by omega) hg hg.nilF
    · exact copyInts_any _ (b 3) (X.L 3) c X.tr w (by omega) hg hg.nilF
    · exact copyInts_any _ (b 7) (X.L 7) c X.tu w (by omega) hg hg.nilF
    · exact copyInts_any _ (b 9) (X.L 9) c X.ma w (by omega) hg hg.nilF
    · exact copyInts_any _ (b 11) (X.L 11) c X.sc w (by omega) hg hg.nilF
    · exact copyBools_any _ (b 8) (X.L 8) c X.qu w (by omega) hg hg.nilF
  refine key.mono ?_
  rintro e w' ⟨a', rfl, hc⟩
  exact ⟨a', rfl, h.addT j hj h0 hc⟩

theorem GF3.c0 (h : GF3 W w n nF X F0 tag o) (g : Src3 W n nF X F0 b) (c : Nat) :
    Calls Try.prog 13 #[.slice (b 0) n c] w fun e w' => ∃ a', e = .returned (.slice a' n n) ∧ ∃ tag', GF3 W w' n nF X F0 tag' (updF o 0 a') := by
  have hg := g.adj.ext h.ext (fun _ _ h => h)
  refine (copyAdj_any _ (b 0) n c X.d _ w (by have := g.hn; omega) (fun p hp => by have := g.hd p hp; omega) hg hg.nilF).mono ?_
  rintro e w' ⟨a', rfl, hc⟩
  exact ⟨a', rfl, h.add0 hc⟩

theorem GF3.c6 (h : GF3 W w n nF X F0 tag o) (g : Src3 W n nF X F0 b) (c : Nat) :
    Calls Try.prog 16 #[.slice (b 6) nF c] w fun e w' => ∃ a', e = .returned (.slice a' nF nF) ∧ ∃ tag', GF3 W w' n nF X F0 tag' (updF o 6 a') := by
  have hg := g.fo.ext h.ext (fun _ _ h => h)
  refine (copyFolds_any _ (b 6) nF c F0 w (by have := g.hF; omega) hg hg.nil0).mono ?_
  rintro e w' ⟨a', rfl, hc⟩
  exact ⟨a', rfl, h.add6 hc⟩

theorem GF3.begin_ (W : World) : GF3 W W n nF X F0 (fun _ => 0) (fun _ => none) :=
  ⟨Ext.refl _ _, fun a h => (by cases h), fun j _ _ a h => (by cases h), fun a h => (by cases h)⟩

/-- all has been copied: it may be copied again. -/
theorem GF3.src (h : GF3 W w n nF X F0 tag o) {b' : Nat → Option Addr} (hb : ∀ j, isFd j = true → o j = some (b' j)) (g : Src3 W n nF X F0 b) : Src3 w n nF X F0 b' := by
  refine ⟨fun p hp => ?_, fun j hj h0 => (h.tab j hj h0 _ (hb j (isFd_tab hj))).rd.mono (fun _ _ => trivial), (h.fo _ (hb 6 rfl)).rd4.mono (fun _ _ => trivial), g.l0, g.hn, g.hd, g.hL, g.hF⟩
  obtain ⟨R, h1, h2⟩ := h.adj _ (hb 0 rfl)
  obtain ⟨bb, off, ha, _, hc⟩ := h1.rd p hp
  have := g.hd p hp
  exact ⟨bb, off, R p, X.d p, ha, trivial, hc, by omega, (h2 p hp).mono (fun _ _ => trivial)⟩

/-- what is known behind ZZFold. -/
structure Out3 (W w' : World) (n nF : Nat) (X : FA) (F0 : Nat → Nat → Int) (v u w2 : Nat) (tv : Nat → Value) (tag' : Nat → Nat) (x0 x' y : FA) (nm : Nat) (mk : Nat → Nat) (aO : Option Addr) (cO bs : Nat) (F : Nat → Nat → Int) : Prop where
  L : ∀ j, j ≠ 6 → x0.L j = X.L j
  d : x0.d = X.d
  N : x0.N = X.N
  st : x0.st = X.st
  dg : x0.dg = X.dg
  tr : x0.tr = X.tr
  tu : x0.tu = X.tu
  qu : x0.qu = X.qu
  ma : x0.ma = X.ma
  sd : x0.sd = X.sd
  sc : x0.sc = X.sc
  s4 : x0.s4 = X.s4
  l6 : x0.L 6 = nF
  F0 : ∀ j, j < nF → x0.F j = F0 j
  fm : FM W tag' w' bs x'
  oo : Own4 (Tg W tag' 17) 42 w' aO (x'.L 6) cO F
  FF : ∀ j, j < x'.L 6 → F j = x'.F j
  ext : Ext (fun _ => False) W w'
  R : FoldR n x0 x' v u w2 nm mk y
  M : Made n X.d X.N (okM X v) u w2 nm mk
  t0 : tv 0 = .slice (x'.a 0) (x'.L 0) (x'.C 0)
  t1 : tv 1 = .slice (x'.a 1) (x'.L 1) (x'.C 1)
  t2 : tv 2 = .slice (x'.a 2) (x'.L 2) (x'.C 2)
  t3 : tv 3 = .slice (x'.a 3) (x'.L 3) (x'.C 3)
  t4 : tv 4 = .int .i64 x'.s4
  t5 : tv 5 = .slice aO (x'.L 6) cO
  t6 : tv 6 = .slice (x'.a 7) (x'.L 7) (x'.C 7)
  t7 : tv 7 = .slice (x'.a 8) (x'.L 8) (x'.C 8)
  t8 : tv 8 = .slice (x'.a 9) (x'.L 9) (x'.C 9)
  t9 : tv 9 = .slice (x'.a 10) (x'.L 10) (x'.C 10)
  t10 : tv 10 = .slice (x'.a 11) (x'.L 11) (x'.C 11)

def P193 (W : World) (n nF : Nat) (X : FA) (F0 : Nat → Nat → Int) (v u w2 : Nat) (tv : Nat → Value) (w' : World) : Prop :=
  ∃ tag' x0 x' y nm mk aO cO bs F, Out3 W w' n nF X F0 v u w2 tv tag' x0 x' y nm mk aO cO bs F

/-- the search that ZZFold is handed. -/
def x3 (X : FA) (b : Nat → Option Addr) (R : Nat → Option Addr) : FA :=
  { X with L := fun j => if j = 6 then 0 else X.L j, C := fun j => if j = 6 then 0 else X.L j, a := fun j => if j = 6 then none else b j, R := R, rc := X.d, s5 := 0 }

theorem x3_f (X : FA) (b R : Nat → Option Addr) (j : Nat) (h0 : j ≠ 0) : (x3 X b R).f j = X.f j := by
  match j, h0 with
  | 1, _ => rfl
  | 2, _ => rfl
  | 3, _ => rfl
  | 4, _ => rfl
  | 5, _ => rfl
  | 6, _ => rfl
  | 7, _ => rfl
  | 8, _ => rfl
  | 9, _ => rfl
  | 10, _ => rfl
  | j + 11, _ => rfl

theorem GF3.c19 {b' : Nat → Option Addr} (h : GF3 W w n nF X F0 tag o) (hb : ∀ j, isFd j = true → o j = some (b' j)) (g : Src3 W n nF X F0 b) (hgr : GN n X.d X.N) {v u w2 iu iw : Nat} (ht : Two n X.d X.N X.st v u w2 iu iw)
    (l1 : X.L 1 = n) (l2 : X.L 2 = n) (l8 : X.L 8 = n) (b3 : X.L 3 ≤ 131072) (b7 : X.L 7 ≤ 131072) (b9 : X.L 9 ≤ 131072) (b11 : X.L 11 ≤ 131072) :
    Calls Try.prog 19 #[.slice (b' 0) n n, .slice (b' 1) (X.L 1) (X.L 1), .slice (b' 2) (X.L 2) (X.L 2), .slice (b' 3) (X.L 3) (X.L 3), .int .i64 X.s4, .int .i64 0, .slice (b' 6) nF nF, .slice (b' 7) (X.L 7) (X.L 7), .slice (b' 8) (X.L 8) (X.L 8), .slice (b' 9) (X.L 9) (X.L 9), .slice (b' 10) (X.L 10) (X.L 10), .slice (b' 11) (X.L 11) (X.L 11), .int .i64 v] w fun e w' => ∃ tv, e = .returned (.tuple (tup11 tv)) ∧ P193 W n nF X F0 v u w2 tv w' := by
  obtain ⟨R, hA1, hA2⟩ := h.adj _ (hb 0 rfl)
  have hFT : FT W tag w (x3 X b' R) := by
    refine ⟨fun j hj => ?_, .inl ⟨rfl, rfl, rfl⟩, fun p hp => hA2 p (by have hp' : p < X.L 0 := hp; rw [g.l0] at hp'; exact hp'), h.ext.size⟩
    by_cases h0 : j = 0
    · subst h0
      show Own (Tg W tag 0) 24 w (b' 0) (X.L 0) (X.L 0) _
      rw [g.l0]
      exact hA1
    · have h1 := h.tab j hj h0 _ (hb j (isFd_tab hj))
      rw [x3_f X b' R j h0]
      have h6 := hj.n6
      show Own (Tg W tag j) (fty j) w (if j = 6 then none else b' j) (if j = 6 then 0 else X.L j) (if j = 6 then 0 else X.L j) _
      rw [if_neg h6, if_neg h6]
      exact h1
  have hin : FoldIn n (x3 X b' R) v u w2 iu iw :=
    ⟨g.l0, l1, l2, l8, g.hn, hgr, fun _ _ => rfl, ht, b3, Nat.zero_le _, b7, b9, g.hL 10 tab10, b11⟩
  have hz := zzfoldG_any hFT n v u w2 iu iw hin rfl rfl rfl (b' 6) nF nF F0 (h.fo _ (hb 6 rfl)).rd4 g.hF
  have e0 : (x3 X b' R).L 0 = n := g.l0
  have e0c : (x3 X b' R).C 0 = n := g.l0
  rw [e0, e0c] at hz
  refine Calls.mono hz ?_
  rintro e w' ⟨tag', x0, x', nm, mk, y, aO, cO, F, bs, rfl, hM, hX, hR, hMd⟩
  refine ⟨fun k => match k with | 0 => .slice (x'.a 0) (x'.L 0) (x'.C 0) | 1 => .slice (x'.a 1) (x'.L 1) (x'.C 1) | 2 => .slice (x'.a 2) (x'.L 2) (x'.C 2) | 3 => .slice (x'.a 3) (x'.L 3) (x'.C 3) | 4 => .int .i64 x'.s4 | 5 => .slice aO (x'.L 6) cO | 6 => .slice (x'.a 7) (x'.L 7) (x'.C 7) | 7 => .slice (x'.a 8) (x'.L 8) (x'.C 8) | 8 => .slice (x'.a 9) (x'.L 9) (x'.C 9) | 9 => .slice (x'.a 10) (x'.L 10) (x'.C 10) | _ => .slice (x'.a 11) (x'.L 11) (x'.C 11), rfl, tag', x0, x', y, nm, mk, aO, cO, bs, F, ?_⟩
  exact ⟨fun j hj => (hX.L j hj).trans (if_neg hj), hX.d, hX.N, hX.st, hX.dg, hX.tr, hX.tu, hX.qu, hX.ma, hX.sd, hX.sc, hX.s4, hX.l6, hX.F, hM.fm, hM.oo, hM.eq, h.ext.trans hM.ext (fun i hi h1 => by omega), hR, hMd, rfl, rfl, rfl, rfl, rfl, rfl, rfl, rfl, rfl, rfl, rfl⟩
end

section
variable (W : World) (n nF : Nat) (X : FA) (F0 : Nat → Nat → Int) (mvV : Nat → Option Value) (v u w2 : Nat)

structure C3Pre (m : Nat → Option Value) (w : World) (tag : Nat → Nat) (o : Nat → Option (Option Addr)) : Prop where
  gf : GF3 W w n nF X F0 tag o
  ms : ∀ j, isFd j = true → m (opIx j) = (o j).map (fun a => .slice a (len3 X nF j) (len3 X nF j))
  rest : ∀ i, 22 ≤ i → m i = none

structure C3Post (m : Nat → Option Value) (w : World) (tv : Nat → Value) : Prop where
  res : P193 W n nF X F0 v u w2 tv w
  ms : ∀ j, isFd j = true → m (opIx j) ≠ none
  m22 : m 22 = some (.tuple (tup11 tv))
  m23 : IsV m 23 (.tuple (tup11 tv))
  ex : ∀ k, k < 11 → IsV m (24 + k) (tv k)
  asn : ∀ k, k < 11 → IsV m (35 + k) (tv k)

structure RF3 (m : Nat → Option Value) (w : World) : Prop where
  vals : ∀ i x, mvV i = some x → IsV m i x
  ph : (∃ tag o, C3Pre W n nF X F0 m w tag o) ∨ ∃ tv, C3Post W n nF X F0 v u w2 m w tv
end

section
variable {W : World} {n nF : Nat} {X : FA} {F0 : Nat → Nat → Int} {mvV : Nat → Option Value} {v u w2 : Nat} {m : Nat → Option Value} {w : World} {b : Nat → Option Addr}

theorem RF3.start : RF3 W n nF X F0 mvV v u w2 (fun _ => none) W.drew :=
  ⟨fun i x _ u h => (by cases h), .inl ⟨fun _ => 0, fun _ => none, ⟨(Ext.refl _ _).drew, fun a h => (by cases h), fun j _ _ a h => (by cases h), fun a h => (by cases h)⟩, fun _ _ => rfl, fun _ _ => rfl⟩⟩

theorem RF3.mv (h : RF3 W n nF X F0 mvV v u w2 m w) (i : Nat) (x : Value) (hi : i < 22) (hx : mvV i = some x) (hne : ∀ j, j < 12 → isFd j = true → opIx j ≠ i) : RF3 W n nF X F0 mvV v u w2 (updO m i x) w := by
  refine ⟨fun k y hk => (h.vals k y hk).all (fun e => by subst e; rw [hx] at hk; injection hk), ?_⟩
  rcases h.ph with ⟨tag, o, hp⟩ | ⟨tv, hp⟩
  · exact .inl ⟨tag, o, hp.gf, fun j hj => by rw [updO_off (hne j (isFd_lt hj) hj)]; exact hp.ms j hj, fun k hk => by rw [updO_off (by omega)]; exact hp.rest k hk⟩
  · exact .inr ⟨tv, hp.res, fun j hj => updO_ne (hp.ms j hj), by rw [updO_off (by omega)]; exact hp.m22, hp.m23.off (by omega), fun k hk => (hp.ex k hk).off (by omega), fun k hk => (hp.asn k hk).off (by omega)⟩

/-- a copying call. -/
theorem RF3.call (h : RF3 W n nF X F0 mvV v u w2 m w) (j f : Nat) (hj : isFd j = true) (hm : m (opIx j) = none) (hv : mvV (opIx j) = none) (args : Array Value)
    (hc : ∀ tag o, GF3 W w n nF X F0 tag o → Calls Try.prog f args w fun e w' => ∃ a', e = .returned (.slice a' (len3 X nF j) (len3 X nF j)) ∧ ∃ tag', GF3 W w' n nF X F0 tag' (updF o j a')) :
    Calls Try.prog f args w fun e w' => ∃ x, e = .returned x ∧ RF3 W n nF X F0 mvV v u w2 (updO m (opIx j) x) w' := by
  rcases h.ph with ⟨tag, o, hp⟩ | ⟨tv, hp⟩
  · refine (hc tag o hp.gf).mono ?_
    rintro e w' ⟨a', rfl, tag', hr⟩
    have hlt := opIx_lt j (isFd_lt hj) hj
    refine ⟨_, rfl, fun k y hk => (h.vals k y hk).all (fun e => by subst e; rw [hv] at hk; cases hk), .inl ⟨tag', _, hr, fun k hk => ?_, fun k hk => by rw [updO_off (by omega)]; exact hp.rest k hk⟩⟩
    by_cases e : k = j
    · subst e; rw [updO_eq, updF, if_pos rfl]; rfl
    · rw [updO_off (fun e2 => e (opIx_inj k (isFd_lt hk) j (isFd_lt hj) hk hj e2)), updF, if_neg e]; exact hp.ms k hk
  · exact absurd hm (hp.ms j hj)

theorem RF3.call22 {iu iw : Nat} (h : RF3 W n nF X F0 mvV v u w2 m w) (g : Src3 W n nF X F0 b) (hgr : GN n X.d X.N) (ht : Two n X.d X.N X.st v u w2 iu iw) (l1 : X.L 1 = n) (l2 : X.L 2 = n) (l8 : X.L 8 = n) (b3 : X.L 3 ≤ 131072) (b7 : X.L 7 ≤ 131072) (b9 : X.L 9 ≤ 131072) (b11 : X.L 11 ≤ 131072) (hm : m 22 = none) (hv : ∀ i, 22 ≤ i → mvV i = none)
    {y : Nat → Value} (hy : ∀ j, j < 12 → isFd j = true → m (opIx j) = some (y j)) :
    Calls Try.prog 19 #[y 0, y 1, y 2, y 3, .int .i64 X.s4, .int .i64 0, y 6, y 7, y 8, y 9, y 10, y 11, .int .i64 v] w fun e w' => ∃ x, e = .returned x ∧ RF3 W n nF X F0 mvV v u w2 (updO m 22 x) w' := by
  rcases h.ph with ⟨tag, o, hp⟩ | ⟨tv, hp⟩
  · have ho : ∀ j, isFd j = true → ∃ a, o j = some a ∧ y j = .slice a (len3 X nF j) (len3 X nF j) := by
      intro j hj
      have h1 := hp.ms j hj
      rw [hy j (isFd_lt hj) hj] at h1
      cases ho : o j with
      | none => rw [ho] at h1; simp at h1
      | some a => rw [ho] at h1; simp at h1; exact ⟨a, rfl, h1⟩
    obtain ⟨b', hb'⟩ : ∃ b' : Nat → Option Addr, ∀ j, b' j = (o j).getD none := ⟨_, fun _ => rfl⟩
    have hb : ∀ j, isFd j = true → o j = some (b' j) := fun j hj => by obtain ⟨a, h1, _⟩ := ho j hj; rw [hb', h1]; rfl
    have hyy : ∀ j, isFd j = true → y j = .slice (b' j) (len3 X nF j) (len3 X nF j) := fun j hj => by obtain ⟨a, h1, h2⟩ := ho j hj; rw [h2, hb', h1]; rfl
    have hc := hp.gf.c19 hb g hgr ht l1 l2 l8 b3 b7 b9 b11
    rw [hyy 0 rfl, hyy 1 rfl, hyy 2 rfl, hyy 3 rfl, hyy 6 rfl, hyy 7 rfl, hyy 8 rfl, hyy 9 rfl, hyy 10 rfl, hyy 11 rfl]
    have el : len3 X nF 0 = n := g.l0
    rw [el]
    refine Calls.mono hc ?_
    rintro e w' ⟨tv, rfl, hr⟩
    have hz : ∀ k, 23 ≤ k → ∀ x, IsV (updO m 22 (.tuple (tup11 tv))) k x := by
      intro k hk x z hz
      rw [updO_off (by omega), hp.rest k (by omega)] at hz
      cases hz
    exact ⟨_, rfl, fun k z hk => (h.vals k z hk).all (fun e => by rw [← e, hv 22 (by omega)] at hk; cases hk), .inr ⟨tv, hr, fun j hj => updO_ne (by rw [hy j (isFd_lt hj) hj]; simp), updO_eq, hz 23 (by omega) _, fun k _ => hz _ (by omega) _, fun k _ => hz _ (by omega) _⟩⟩
  · rw [hp.m22] at hm; cases hm

theorem RF3.out (h : RF3 W n nF X F0 mvV v u w2 m w) {k : Nat} {x : Value} (hm : m k = some x) (hk : 22 ≤ k) : ∃ tv, C3Post W n nF X F0 v u w2 m w tv := by
  rcases h.ph with ⟨tag, o, hp⟩ | hp
  · rw [hp.rest k hk] at hm; cases hm
  · exact hp

theorem RF3.put {tv : Nat → Value} (h : RF3 W n nF X F0 mvV v u w2 m w) (hp : C3Post W n nF X F0 v u w2 m w tv) (i : Nat) (x : Value) (hi : 23 ≤ i) (hv : ∀ i, 22 ≤ i → mvV i = none) (u10 : i = 23 → x = .tuple (tup11 tv)) (ue : ∀ k, k < 11 → i = 24 + k → x = tv k) (ua : ∀ k, k < 11 → i = 35 + k → x = tv k) :
    RF3 W n nF X F0 mvV v u w2 (updO m i x) w :=
  ⟨fun k z hk => (h.vals k z hk).all (fun e => by rw [← e, hv i (by omega)] at hk; cases hk), .inr ⟨tv, hp.res, fun j hj => updO_ne (hp.ms j hj), by rw [updO_off (by omega)]; exact hp.m22, hp.m23.all u10, fun k hk => (hp.ex k hk).all (fun e => ue k hk e), fun k hk => (hp.asn k hk).all (fun e => ua k hk e)⟩⟩

theorem RF3.ext (h : RF3 W n nF X F0 mvV v u w2 m w) (hv : ∀ i, 22 ≤ i → mvV i = none) (k : Nat) (hk : k < 11) {x : Value} (e : m 23 = some x) : ∃ vs y, x = .tuple vs ∧ vs[k]? = some y ∧ RF3 W n nF X F0 mvV v u w2 (updO m (24 + k) y) w := by
  obtain ⟨tv, hp⟩ := h.out e (by omega)
  have hx := hp.m23 _ e
  refine ⟨tup11 tv, tv k, hx, ?_, h.put hp (24 + k) (tv k) (by omega) hv (fun e => by omega) (fun j hj e => by rw [show k = j by omega]) (fun j hj e => by omega)⟩
  match k, hk with
  | 0, _ => rfl
  | 1, _ => rfl
  | 2, _ => rfl
  | 3, _ => rfl
  | 4, _ => rfl
  | 5, _ => rfl
  | 6, _ => rfl
  | 7, _ => rfl
  | 8, _ => rfl
  | 9, _ => rfl
  | 10, _ => rfl

theorem RF3.asg (h : RF3 W n nF X F0 mvV v u w2 m w) (hv : ∀ i, 22 ≤ i → mvV i = none) (k : Nat) (hk : k < 11) {x : Value} (e : m (24 + k) = some x) : RF3 W n nF X F0 mvV v u w2 (updO m (35 + k) x) w := by
  obtain ⟨tv, hp⟩ := h.out e (by omega)
  have hx := hp.ex k hk _ e
  exact h.put hp (35 + k) x (by omega) hv (fun e => by omega) (fun j hj e => by omega) (fun j hj e => by rw [hx, show k = j by omega])

theorem RF3.end_ {vv : Nat → Value} (h : RF3 W n nF X F0 mvV v u w2 (fun i => if i < 46 then some (vv i) else none) w) : ∃ tv, P193 W n nF X F0 v u w2 tv w ∧ ∀ k, k < 11 → vv (35 + k) = tv k := by
  obtain ⟨tv, hp⟩ := h.out (k := 22) (x := vv 22) (by simp) (by omega)
  exact ⟨tv, hp.res, fun k hk => hp.asn k hk _ (by show (if 35 + k < 46 then some (vv (35 + k)) else none) = _; rw [if_pos (by omega)])⟩
end
end Go.Proofs.Qxb6601557a
