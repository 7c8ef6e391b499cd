/-
  cliques: what it is given, the states of its loops. By an AI agent.
-/
import Derived.Test.Qxb6601557aCliqM
import Derived.Test.Qxb6601557aDeg
namespace Go.Proofs.Qxb6601557a
set_option linter.unusedVariables false
open Go.RowKit

/-- a graph of n places whose neighbours are below n and differ. -/
structure Gr (n : Nat) (d : Nat → Nat) (N : Nat → Nat → Nat) : Prop where
  lt : ∀ p, p < n → ∀ i, i < d p → N p i < n
  inj : ∀ p, p < n → ∀ i j, i < d p → j < d p → N p i = N p j → i = j
  dle : ∀ p, p < n → d p ≤ 131072

structure CliIn (w : World) (bs bsc : Nat) (S : Nat → Prop) (v : Nat → Value) (n : Nat) (d : Nat → Nat) (N : Nat → Nat → Nat) (st dg : Nat → Int) (ap : Option Addr) (np : Nat) (P : Nat → Nat) (asc : Option Addr) (csc : Nat) : Prop where
  str : Own (fun k => k = bs) 66 w (some ⟨bs, 0, none⟩) 12 12 v
  adj : ∃ aa ca, v 0 = .slice aa n ca ∧ RdAdj S w aa n d (fun p i => (N p i : Int))
  sta : ∃ asta csta, v 1 = .slice asta n csta ∧ Rd S w asta n (fun j => .int .i8 (st j))
  deg : ∃ ad cd, v 2 = .slice ad n cd ∧ Rd S w ad n (fun j => .int .i64 (dg j))
  v11 : v 11 = .slice asc n csc
  sc : Own (fun k => k = bsc) 3 w asc n csc (fun _ => .int .i64 0)
  pl : Rd S w ap np (fun j => .int .i64 (P j : Int))
  out : ∀ k, S k → k ≠ bs ∧ k ≠ bsc
  ne : bs ≠ bsc
  bsc : bsc < w.heap.size
  ok : ∀ i, i < np → P i < n ∧ 0 ≤ dg (P i) ∧ dg (P i) ≤ n ∧ st (P i) = 0
  pinj : ∀ i j, i < np → j < np → P i = P j → i = j
  gr : Gr n d N

theorem CliIn.degIn {w : World} {bs bsc : Nat} {S : Nat → Prop} {v : Nat → Value} {n : Nat} {d : Nat → Nat} {N : Nat → Nat → Nat} {st dg : Nat → Int} {ap : Option Addr} {np : Nat} {P : Nat → Nat} {asc : Option Addr} {csc : Nat}
    (h : CliIn w bs bsc S v n d N st dg ap np P asc csc) : DegIn w bs S v n dg ap np P :=
  ⟨h.str, h.deg, h.pl, fun k hk => (h.out k hk).1, fun i hi => ⟨(h.ok i hi).1, (h.ok i hi).2.1, (h.ok i hi).2.2.1⟩⟩

/-- the order in which the places are taken. -/
structure OrdOk (np : Nat) (dg : Nat → Int) (P : Nat → Nat) (t : Nat) (O : Nat → Nat) : Prop where
  top : TopIs (fun i => dg (P i)) np t
  at_ : ∀ i, i < np → O (rk np (keyOf t dg P) i) = P i

theorem OrdOk.mem {np : Nat} {dg : Nat → Int} {P : Nat → Nat} {t : Nat} {O : Nat → Nat} (h : OrdOk np dg P t O) (j : Nat) (hj : j < np) : ∃ i, i < np ∧ rk np (keyOf t dg P) i = j ∧ O j = P i := by
  obtain ⟨i, hi, e⟩ := rk_onto (K := keyOf t dg P) hj
  exact ⟨i, hi, e, by rw [← e]; exact h.at_ i hi⟩

theorem OrdOk.inj {np : Nat} {dg : Nat → Int} {P : Nat → Nat} {t : Nat} {O : Nat → Nat} (h : OrdOk np dg P t O) (hP : ∀ i j, i < np → j < np → P i = P j → i = j) : ∀ i j, i < np → j < np → O i = O j → i = j := by
  intro i j hi hj e
  obtain ⟨i', hi', e1, e2⟩ := h.mem i hi
  obtain ⟨j', hj', e3, e4⟩ := h.mem j hj
  have := hP i' j' hi' hj' (by rw [← e2, ← e4, e])
  rw [← e1, ← e3, this]

/-- the search's own block and its scratch. -/
structure CliS (w1 wr : World) (bs bsc : Nat) (v : Nat → Value) (n : Nat) (asc : Option Addr) (csc : Nat) (s : Int) (wh : Nat → Nat) : Prop where
  ext : Ext (fun k => k = bs ∨ k = bsc) w1 wr
  str : Own (fun k => k = bs) 66 wr (some ⟨bs, 0, none⟩) 12 12 (upd v 4 (.int .i64 s))
  sc : Own (fun k => k = bsc) 3 wr asc n csc (fun q => .int .i64 (wh q : Int))

theorem CliS.later {w1 wr wq : World} {bs bsc : Nat} {v : Nat → Value} {n : Nat} {asc : Option Addr} {csc : Nat} {s : Int} {wh : Nat → Nat} (h : CliS w1 wr bs bsc v n asc csc s wh) {T : Nat → Prop} (hx : Ext T wr wq) (hT : ∀ k, k < w1.heap.size → ¬ T k) (hb : bs < w1.heap.size) (hc : bsc < w1.heap.size) :
    CliS w1 wq bs bsc v n asc csc s wh :=
  ⟨h.ext.trans hx (fun i hi ht => absurd ht (hT i hi)), h.str.ext hx (fun k hk => by subst hk; exact hT _ hb), h.sc.ext hx (fun k hk => by subst hk; exact hT _ hc)⟩

theorem CliS.drew {w1 wr : World} {bs bsc : Nat} {v : Nat → Value} {n : Nat} {asc : Option Addr} {csc : Nat} {s : Int} {wh : Nat → Nat} (h : CliS w1 wr bs bsc v n asc csc s wh) : CliS w1 wr.drew bs bsc v n asc csc s wh := ⟨h.ext.drew, h.str.drew, h.sc.drew⟩

/-- field j of the search (not its steps). -/
theorem CliS.field {w1 wr : World} {bs bsc : Nat} {v : Nat → Value} {n : Nat} {asc : Option Addr} {csc : Nat} {s : Int} {wh : Nat → Nat} (h : CliS w1 wr bs bsc v n asc csc s wh) (j : Nat) (hj : j < 12) (hne : j ≠ 4) : wr.cell? ⟨bs, j, none⟩ = some (v j) := by
  obtain ⟨g, _, hS, _, hc, _⟩ := h.str.at j hj
  obtain rfl : g = bs := hS
  rw [hc, upd_other _ _ _ _ hne]

theorem CliS.steps {w1 wr : World} {bs bsc : Nat} {v : Nat → Value} {n : Nat} {asc : Option Addr} {csc : Nat} {s : Int} {wh : Nat → Nat} (h : CliS w1 wr bs bsc v n asc csc s wh) (hne : bs ≠ bsc) :
    wr.cell? ⟨bs, 4, none⟩ = some (.int .i64 s) ∧ wr.frozen? ⟨bs, 4, none⟩ = false ∧ ∀ s', CliS w1 (wr.setCell ⟨bs, 4, none⟩ (.int .i64 s')) bs bsc v n asc csc s' wh := by
  obtain ⟨g, _, hS, _, hc, hf, hst⟩ := h.str.at 4 (by omega)
  obtain rfl : g = bs := hS
  refine ⟨by rw [hc, upd_same], hf, fun s' => ⟨h.ext.setCell (fun _ => .inl rfl) _, (hst _).congr (fun j _ => ?_), h.sc.ext ((Ext.refl (fun k => k = g) _).setCell (fun _ => rfl) _) (fun k hk e => by omega)⟩⟩
  by_cases e : j = 4
  · subst e; rw [upd_same, upd_same]
  · rw [upd_other _ _ _ _ e, upd_other _ _ _ _ e, upd_other _ _ _ _ e]

theorem CliS.scAt {w1 wr : World} {bs bsc : Nat} {v : Nat → Value} {n : Nat} {asc : Option Addr} {csc : Nat} {s : Int} {wh : Nat → Nat} (h : CliS w1 wr bs bsc v n asc csc s wh) (hne : bs ≠ bsc) (q : Nat) (hq : q < n) :
    asc = some ⟨bsc, 0, none⟩ ∧ wr.cell? ⟨bsc, q, none⟩ = some (.int .i64 (wh q : Int)) ∧ wr.frozen? ⟨bsc, q, none⟩ = false ∧ ∀ x : Nat, CliS w1 (wr.setCell ⟨bsc, q, none⟩ (.int .i64 (x : Int))) bs bsc v n asc csc s (upd wh q x) := by
  obtain ⟨g, rfl, hS, _, hc, hf, hst⟩ := h.sc.at q hq
  obtain rfl : g = bsc := hS
  refine ⟨rfl, hc, hf, fun x => ⟨h.ext.setCell (fun _ => .inr rfl) _, h.str.ext ((Ext.refl (fun k => k = g) _).setCell (fun _ => rfl) _) (fun k hk e => by omega), (hst _).congr (fun j _ => upd_map (fun n : Nat => Value.int .i64 (n : Int)) wh q x j)⟩⟩

theorem upd_upd1 {α : Type} : @upd α = @upd1 α := rfl

/-- how often clique c is met among the first i neighbours of p. -/
def cnM (N : Nat → Nat → Nat) (wh : Nat → Nat) (p i c : Nat) : Nat := cnt i (fun k => decide (wh (N p k) = c + 1))

theorem cnM_skip {N : Nat → Nat → Nat} {wh : Nat → Nat} {p i : Nat} (h : wh (N p i) = 0) (c : Nat) : cnM N wh p (i + 1) c = cnM N wh p i c := by
  unfold cnM; rw [cnt_succ, h]; simp
theorem cnM_hit {N : Nat → Nat → Nat} {wh : Nat → Nat} {p i x : Nat} (h : wh (N p i) = x + 1) : cnM N wh p (i + 1) = upd (cnM N wh p i) x (cnM N wh p i x + 1) := by
  funext c
  by_cases e : c = x
  · subst e; rw [upd_same]; unfold cnM; rw [cnt_succ, h]; simp
  · rw [upd_other _ _ _ _ e]; unfold cnM; rw [cnt_succ, h, if_neg (by simp; omega)]; rfl

/-- 'met' holds, each once, the cliques that were met. -/
structure MetOk (nc nm : Nat) (mt cn : Nat → Nat) : Prop where
  lt : ∀ j, j < nm → mt j < nc
  pos : ∀ j, j < nm → 0 < cn (mt j)
  all : ∀ c, c < nc → 0 < cn c → ∃ j, j < nm ∧ mt j = c
  inj : ∀ i j, i < nm → j < nm → mt i = mt j → i = j

theorem inj_le {n m : Nat} {f : Nat → Nat} (h : ∀ i, i < n → f i < m) (hinj : ∀ i j, i < n → j < n → f i = f j → i = j) : n ≤ m := by
  have h1 := cnt_match n m f (fun k => k) hinj (fun i j _ _ e => e)
  have h2 : cnt n (fun i => memN m (fun k => k) (f i)) = n := cnt_all.2 (fun i hi => memN_iff.2 ⟨f i, h i hi, rfl⟩)
  rw [h2] at h1
  rw [h1]
  exact cnt_le _ _

theorem MetOk.nm_le {nc nm : Nat} {mt cn : Nat → Nat} (h : MetOk nc nm mt cn) : nm ≤ nc := inj_le h.lt h.inj

theorem MetOk.zero {nc : Nat} {mt : Nat → Nat} {cn : Nat → Nat} (h : ∀ c, c < nc → cn c = 0) : MetOk nc 0 mt cn :=
  ⟨fun j hj => absurd hj (Nat.not_lt_zero j), fun j hj => absurd hj (Nat.not_lt_zero j), fun c hc h0 => by rw [h c hc] at h0; omega, fun i j hi => absurd hi (Nat.not_lt_zero i)⟩

/-- met before: only its count goes up. -/
theorem MetOk.more {nc nm x : Nat} {mt cn : Nat → Nat} (h : MetOk nc nm mt cn) (h0 : 0 < cn x) : MetOk nc nm mt (upd cn x (cn x + 1)) := by
  refine ⟨h.lt, fun j hj => ?_, fun c hc hp => ?_, h.inj⟩
  · by_cases e : mt j = x
    · rw [e, upd_same]; omega
    · rw [upd_other _ _ _ _ e]; exact h.pos j hj
  · by_cases e : c = x
    · subst e; exact h.all c hc h0
    · rw [upd_other _ _ _ _ e] at hp; exact h.all c hc hp

/-- met for the first time: it is put on the list. -/
theorem MetOk.new {nc nm x : Nat} {mt cn : Nat → Nat} (h : MetOk nc nm mt cn) (hx : x < nc) (h0 : cn x = 0) : MetOk nc (nm + 1) (upd mt nm x) (upd cn x (cn x + 1)) := by
  have hne : ∀ j, j < nm → mt j ≠ x := fun j hj e => by have := h.pos j hj; rw [e] at this; omega
  refine ⟨fun j hj => ?_, fun j hj => ?_, fun c hc hp => ?_, fun i j hi hj e => ?_⟩
  · by_cases e : j = nm
    · subst e; rw [upd_same]; exact hx
    · rw [upd_other _ _ _ _ e]; exact h.lt j (by omega)
  · by_cases e : j = nm
    · subst e; rw [upd_same, upd_same]; omega
    · rw [upd_other _ _ _ _ e, upd_other _ _ _ _ (hne j (by omega))]; exact h.pos j (by omega)
  · by_cases e : c = x
    · subst e; exact ⟨nm, by omega, upd_same _ _ _⟩
    · rw [upd_other _ _ _ _ e] at hp
      obtain ⟨j, hj, ej⟩ := h.all c hc hp
      exact ⟨j, by omega, by rw [upd_other _ _ _ _ (by omega)]; exact ej⟩
  · by_cases ei : i = nm
    · by_cases ej : j = nm
      · omega
      · subst ei; rw [upd_same, upd_other _ _ _ _ ej] at e; exact absurd e.symm (hne j (by omega))
    · by_cases ej : j = nm
      · subst ej; rw [upd_same, upd_other _ _ _ _ ei] at e; exact absurd e (hne i (by omega))
      · rw [upd_other _ _ _ _ ei, upd_other _ _ _ _ ej] at e; exact h.inj i j (by omega) (by omega) e

theorem cell_ext {T : Nat → Prop} {w w' : World} {a : Addr} {x : Value} (h : w.cell? a = some x) (hx : Ext T w w') (hT : ¬ T a.block) : w'.cell? a = some x :=
  (World.cell?_of_block (w := w) (hx.block a.block (World.block_lt_of_cell? w _ h) hT)).trans h

def sumD (d O : Nat → Nat) : Nat → Int
  | 0 => 0
  | m + 1 => sumD d O m + d (O m)

theorem wrap64_add (a b : Int) : wrap64 (wrap64 a + b) = wrap64 (a + b) := by unfold wrap64; omega

structure CliOut (w w' : World) (bs bsc : Nat) (v : Nat → Value) (n : Nat) (d : Nat → Nat) (N : Nat → Nat → Nat) (dg : Nat → Int) (np : Nat) (P : Nat → Nat) (asc : Option Addr) (csc : Nat) (steps : Int) (t : Nat) (O : Nat → Nat) (aC : Option Addr) (capC : Nat) : Prop where
  ord : OrdOk np dg P t O
  ext : Ext (fun k => k = bs ∨ k = bsc) w w'
  rows : ∃ (R : Nat → Option Addr) (cp : Nat → Nat), Own (fun k => w.heap.size ≤ k) 24 w' aC (runC d N O np).nc capC (fun c => .slice (R c) ((runC d N O np).sz c) (cp c)) ∧
    ∀ c, c < (runC d N O np).nc → Own (fun k => w.heap.size ≤ k) 3 w' (R c) ((runC d N O np).sz c) (cp c) (fun i => .int .i64 ((runC d N O np).el c i : Int))
  nil : (runC d N O np).nc = 0 → aC = none
  str : Own (fun k => k = bs) 66 w' (some ⟨bs, 0, none⟩) 12 12 (upd v 4 (.int .i64 (wrap64 (steps + (2 * np + t) + sumD d O np))))
  sc : Own (fun k => k = bsc) 3 w' asc n csc (fun _ => .int .i64 0)

def joZ : Option Nat → Int
  | none => -1
  | some b => (b : Int)

/-- the best among the first j cliques met. -/
def BestM (fit : Nat → Bool) (sz mt : Nat → Nat) (j : Nat) : Option Nat → Prop
  | none => ∀ i, i < j → fit (mt i) = false
  | some b => (∃ i, i < j ∧ mt i = b) ∧ fit b = true ∧ ∀ i, i < j → fit (mt i) = true → sz (mt i) < sz b ∨ (sz (mt i) = sz b ∧ b ≤ mt i)

theorem BestM.zero (fit : Nat → Bool) (sz mt : Nat → Nat) : BestM fit sz mt 0 none := fun i hi => absurd hi (Nat.not_lt_zero i)

theorem BestM.skip {fit : Nat → Bool} {sz mt : Nat → Nat} {j : Nat} {jo : Option Nat} (h : BestM fit sz mt j jo) (hf : fit (mt j) = false) : BestM fit sz mt (j + 1) jo := by
  cases jo with
  | none =>
    intro i hi
    by_cases e : i = j
    · subst e; exact hf
    · exact h i (by omega)
  | some b =>
    obtain ⟨⟨i, hi, ei⟩, h2, h3⟩ := h
    refine ⟨⟨i, by omega, ei⟩, h2, fun i hi hfi => ?_⟩
    by_cases e : i = j
    · subst e; rw [hf] at hfi; cases hfi
    · exact h3 i (by omega) hfi

theorem BestM.first {fit : Nat → Bool} {sz mt : Nat → Nat} {j : Nat} (h : BestM fit sz mt j none) (hf : fit (mt j) = true) : BestM fit sz mt (j + 1) (some (mt j)) := by
  refine ⟨⟨j, by omega, rfl⟩, hf, fun i hi hfi => ?_⟩
  by_cases e : i = j
  · subst e; omega
  · have := h i (by omega); rw [this] at hfi; cases hfi

theorem BestM.better {fit : Nat → Bool} {sz mt : Nat → Nat} {j b : Nat} (h : BestM fit sz mt j (some b)) (hf : fit (mt j) = true) (hb : sz b < sz (mt j) ∨ (sz (mt j) = sz b ∧ mt j < b)) : BestM fit sz mt (j + 1) (some (mt j)) := by
  refine ⟨⟨j, by omega, rfl⟩, hf, fun i hi hfi => ?_⟩
  by_cases e : i = j
  · subst e; omega
  · have := h.2.2 i (by omega) hfi; omega

theorem BestM.stay {fit : Nat → Bool} {sz mt : Nat → Nat} {j b : Nat} (h : BestM fit sz mt j (some b)) (hb : ¬ (sz b < sz (mt j) ∨ (sz (mt j) = sz b ∧ mt j < b))) : BestM fit sz mt (j + 1) (some b) := by
  obtain ⟨⟨i, hi, ei⟩, h2, h3⟩ := h
  refine ⟨⟨i, by omega, ei⟩, h2, fun i hi hfi => ?_⟩
  by_cases e : i = j
  · subst e; omega
  · exact h3 i (by omega) hfi

/-- the counts while they are put back to 0. -/
def cnZ (mt cn : Nat → Nat) (j c : Nat) : Nat := if memN j mt c then 0 else cn c

theorem cnZ_zero (mt cn : Nat → Nat) : cnZ mt cn 0 = cn := by funext c; simp [cnZ, memN]

theorem cnZ_succ (mt cn : Nat → Nat) (j : Nat) : cnZ mt cn (j + 1) = upd (cnZ mt cn j) (mt j) 0 := by
  funext c
  by_cases e : c = mt j
  · subst e
    rw [upd_same]
    unfold cnZ
    rw [if_pos (memN_iff.2 ⟨j, by omega, rfl⟩)]
  · rw [upd_other _ _ _ _ e]
    unfold cnZ
    have : memN (j + 1) mt c = memN j mt c := by
      rw [Bool.eq_iff_iff, memN_iff, memN_iff]
      constructor
      · rintro ⟨i, hi, ei⟩
        by_cases h : i = j
        · subst h; exact absurd ei.symm e
        · exact ⟨i, by omega, ei⟩
      · rintro ⟨i, hi, ei⟩; exact ⟨i, by omega, ei⟩
    rw [this]

theorem cnZ_at {nc nm : Nat} {mt cn : Nat → Nat} (h : MetOk nc nm mt cn) {j : Nat} (hj : j < nm) : cnZ mt cn j (mt j) = cn (mt j) := by
  unfold cnZ
  rw [if_neg]
  intro hm
  obtain ⟨i, hi, ei⟩ := memN_iff.1 hm
  have := h.inj i j (by omega) hj ei
  omega

theorem cnZ_last {nc nm : Nat} {mt cn : Nat → Nat} (h : MetOk nc nm mt cn) {c : Nat} (hc : c < nc) : cnZ mt cn nm c = 0 := by
  unfold cnZ
  split
  · rfl
  · rename_i hm
    by_cases h0 : cn c = 0
    · exact h0
    · obtain ⟨j, hj, ej⟩ := h.all c hc (by omega)
      exact absurd (memN_iff.2 ⟨j, hj, ej⟩) hm

theorem CInv.elinj {d : Nat → Nat} {N : Nat → Nat → Nat} {O : Nat → Nat} {m : Nat} {s : CSt} {wh : Nat → Nat} (hc : CInv d N O m s wh) (hO : ∀ i j, i < m → j < m → O i = O j → i = j) (c : Nat) :
    ∀ i j, i < s.sz c → j < s.sz c → s.el c i = s.el c j → i = j := by
  intro i j hi hj e
  rcases Nat.lt_trichotomy i j with h | h | h
  · obtain ⟨k, l, h1, h2, h3, h4⟩ := hc.ord c i j h hj
    have := hO k l (by omega) h2 (by rw [← h3, ← h4, e])
    omega
  · exact h
  · obtain ⟨k, l, h1, h2, h3, h4⟩ := hc.ord c j i h hi
    have := hO k l (by omega) h2 (by rw [← h3, ← h4, e])
    omega

theorem CInv.sz_le {d : Nat → Nat} {N : Nat → Nat → Nat} {O : Nat → Nat} {m n : Nat} {s : CSt} {wh : Nat → Nat} (hc : CInv d N O m s wh) (hO : ∀ i j, i < m → j < m → O i = O j → i = j) (hn : ∀ k, k < m → O k < n) (c : Nat) : s.sz c ≤ n :=
  inj_le (f := s.el c) (fun i hi => by obtain ⟨k, hk, e⟩ := hc.mem c i hi; rw [e]; exact hn k hk) (hc.elinj hO c)

/-- the counts tell which cliques fit. -/
theorem cnM_fit {d : Nat → Nat} {N : Nat → Nat → Nat} {n : Nat} (hg : Gr n d N) {O : Nat → Nat} {m : Nat} {s : CSt} {wh : Nat → Nat} (hc : CInv d N O m s wh) (hO : ∀ i j, i < m → j < m → O i = O j → i = j) {p : Nat} (hp : p < n) (c : Nat) :
    decide (cnM N wh p (d p) c = s.sz c) = fitB d N s p c := by
  have e1 : cnM N wh p (d p) c = cnt (d p) (fun i => memN (s.sz c) (s.el c) (N p i)) := by
    refine cnt_congr (fun i hi => ?_)
    rw [Bool.eq_iff_iff, decide_eq_true_eq, memN_iff]
    constructor
    · intro h
      obtain ⟨k, hk, ek⟩ := hc.cov (N p i) (by omega)
      rw [h] at hk ek
      exact ⟨k, hk, ek⟩
    · rintro ⟨k, hk, ek⟩
      rw [← ek]; exact hc.whm c k hk
  rw [e1, cnt_match (d p) (s.sz c) (N p) (s.el c) (hg.inj p hp) (hc.elinj hO c)]
  rw [Bool.eq_iff_iff, decide_eq_true_eq, cnt_all]
  unfold fitB
  rw [allB_iff]

theorem BestM.isBest {nc nm : Nat} {mt cn sz : Nat → Nat} {fit : Nat → Bool} {jo : Option Nat} (h : BestM fit sz mt nm jo) (hM : MetOk nc nm mt cn) (hfit : ∀ c, decide (cn c = sz c) = fit c) (hpos : ∀ c, c < nc → 0 < sz c) : IsBest fit sz nc jo := by
  have hmet : ∀ c, c < nc → fit c = true → ∃ i, i < nm ∧ mt i = c := by
    intro c hc hf
    have h1 : cn c = sz c := by rw [← hfit c] at hf; simpa using hf
    exact hM.all c hc (by have := hpos c hc; omega)
  cases jo with
  | none =>
    intro c hc
    by_cases hf : fit c = true
    · obtain ⟨i, hi, e⟩ := hmet c hc hf
      rw [← e]; exact h i hi
    · simpa using hf
  | some b =>
    obtain ⟨⟨i, hi, e⟩, h2, h3⟩ := h
    refine ⟨by rw [← e]; exact hM.lt i hi, h2, fun c hc hf => ?_⟩
    obtain ⟨i, hi, e⟩ := hmet c hc hf
    rw [← e]
    exact h3 i hi (by rw [e]; exact hf)

theorem BestM.joinOf {d : Nat → Nat} {N : Nat → Nat → Nat} {s : CSt} {p nm : Nat} {mt cn : Nat → Nat} {jo : Option Nat} (h : BestM (fitB d N s p) s.sz mt nm jo) (hM : MetOk s.nc nm mt cn) (hfit : ∀ c, decide (cn c = s.sz c) = fitB d N s p c) (hpos : ∀ c, c < s.nc → 0 < s.sz c) :
    joinOf d N s p = jo.getD s.nc := by
  unfold Go.Proofs.Qxb6601557a.joinOf
  rw [(bestTo_is (fitB d N s p) s.sz s.nc).uniq (h.isBest hM hfit hpos)]

end Go.Proofs.Qxb6601557a
