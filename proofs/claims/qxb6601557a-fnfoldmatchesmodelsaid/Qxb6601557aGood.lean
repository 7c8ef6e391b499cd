/-
  A region that draws its order and has no guards: what each operation yields is good in every later world, whatever the order. By an AI agent.
-/
import Derived.WalkKit
namespace Go.Proofs.Qxb6601557a
set_option linter.unusedVariables false

/-- the frame behind all operations, in the order of the text. -/
def putAll (v : Nat → Value) : List Oper → Nat → Act → Act
  | [], _, a => a
  | o :: r, k, a => putAll v r (k + 1) (a.put o.dst (v k))

def noGuards (ops : List Oper) : Bool := ops.all fun o => o.guard.isNone
def backEdges (ops : List Oper) : Bool := ops.zipIdx.all fun (o, i) => o.after.all fun e => !Region.binds .any e || decide (e.on < i)
def dstsOf (ops : List Oper) : List Nat := ops.filterMap (·.dst)
def dstsOk (ops : List Oper) (n : Nat) : Bool := decide (dstsOf ops).Nodup && (dstsOf ops).all (fun d => decide (d < n))

theorem put_size (a : Act) (d : Option Tmp) (v : Value) : (a.put d v).tmps.size = a.tmps.size := by cases d <;> simp [Act.put]
theorem put_defers' (a : Act) (d : Option Tmp) (v : Value) : (a.put d v).defers = a.defers := by cases d <;> simp [Act.put]
theorem put_other (a : Act) (d : Option Tmp) (v : Value) (t : Nat) (h : d ≠ some t) : (a.put d v).tmps[t]? = a.tmps[t]? := by
  cases d with
  | none => rfl
  | some d => simp [Act.put]; rw [Array.getElem?_setIfInBounds_ne (fun e => h (by rw [e]))]
theorem put_same (a : Act) (d : Nat) (v : Value) (h : d < a.tmps.size) : (a.put (some d) v).tmps[d]? = some v := by
  simp [Act.put, h]

theorem putAll_size (v : Nat → Value) : ∀ (l : List Oper) (k : Nat) (a : Act), (putAll v l k a).tmps.size = a.tmps.size
  | [], _, _ => rfl
  | o :: r, k, a => by rw [putAll, putAll_size, put_size]
theorem putAll_defers (v : Nat → Value) : ∀ (l : List Oper) (k : Nat) (a : Act), (putAll v l k a).defers = a.defers
  | [], _, _ => rfl
  | o :: r, k, a => by rw [putAll, putAll_defers, put_defers']
theorem putAll_other (v : Nat → Value) (t : Nat) : ∀ (l : List Oper) (k : Nat) (a : Act), (∀ o ∈ l, o.dst ≠ some t) → (putAll v l k a).tmps[t]? = a.tmps[t]?
  | [], _, _, _ => rfl
  | o :: r, k, a, h => by rw [putAll, putAll_other v t r (k + 1) _ (fun x hx => h x (by simp [hx])), put_other _ _ _ _ (h o (by simp))]
theorem putAll_at (v : Nat → Value) (t : Nat) : ∀ (l : List Oper) (k i : Nat) (a : Act) (o : Oper), (dstsOf l).Nodup → l[i]? = some o → o.dst = some t → t < a.tmps.size → (putAll v l k a).tmps[t]? = some (v (k + i))
  | [], _, _, _, _, _, h, _, _ => by simp at h
  | x :: r, k, 0, a, o, hn, hi, ho, ht => by
    simp at hi
    subst hi
    rw [putAll, putAll_other, ho, put_same _ _ _ ht, Nat.add_zero]
    intro y hy e
    unfold dstsOf at hn
    rw [List.filterMap_cons, ho] at hn
    simp only [List.nodup_cons] at hn
    exact hn.1 (List.mem_filterMap.2 ⟨y, hy, e⟩)
  | x :: r, k, i + 1, a, o, hn, hi, ho, ht => by
    simp at hi
    have hn' : (dstsOf r).Nodup := by
      unfold dstsOf at hn ⊢
      rw [List.filterMap_cons] at hn
      cases hx : x.dst with
      | none => rw [hx] at hn; exact hn
      | some d => rw [hx] at hn; simp only [List.nodup_cons] at hn; exact hn.2
    rw [putAll, putAll_at v t r (k + 1) i _ o hn' hi ho (by rw [put_size]; exact ht)]
    congr 2
    omega

def updO (m : Nat → Option Value) (i : Nat) (u : Value) : Nat → Option Value := fun j => if j = i then some u else m j

/-- op i of the region, run in any frame and world that fit: the relation goes on. 'm': what each operation that has been run has yielded. -/
def GoodOp (P : Program) (ops : List Oper) (Q : Exit → Act → World → Prop) (a0 : Act) (R : (Nat → Option Value) → World → Prop) (i : Nat) (o : Oper) : Prop :=
  ∀ (m : Nat → Option Value) (a : Act) (w : World), R m w → m i = none → (∀ t, (∀ x ∈ ops, x.dst ≠ some t) → a.eval (.tmp t) = a0.eval (.tmp t)) →
    (∀ (j : Nat) (x : Oper) (t : Nat), (∃ e ∈ o.after, Region.binds .any e = true ∧ e.on = j) → ops[j]? = some x → x.dst = some t → m j = some (a.eval (.tmp t))) →
    o.wp P a w (fun a' w' => ∃ u, a' = a.put o.dst u ∧ R (updO m i u) w') Q

structure JInv (ops : List Oper) (a0 : Act) (R : (Nat → Option Value) → World → Prop) (m : Nat → Option Value) (listed : Array Bool) (a : Act) (w : World) : Prop where
  sz : listed.size = ops.length
  c : R m w
  df : a.defers = a0.defers
  ts : a.tmps.size = a0.tmps.size
  none_ : ∀ i, m i = none ↔ listed.getD i false = false
  good : ∀ (i : Nat) (o : Oper) (t : Nat), ops[i]? = some o → o.dst = some t → listed.getD i false = true → m i = some (a.eval (.tmp t))
  same : ∀ t, (∀ (i : Nat) (o : Oper), ops[i]? = some o → o.dst = some t → listed.getD i false = false) → a.tmps[t]? = a0.tmps[t]?

theorem eval_tmp (a : Act) (t : Nat) : a.eval (.tmp t) = (a.tmps[t]?).getD undef := by simp [Act.eval]

theorem nodup_inj {l : List Oper} (h : (dstsOf l).Nodup) {i j : Nat} {x y : Oper} {t : Nat} (hi : l[i]? = some x) (hj : l[j]? = some y) (hx : x.dst = some t) (hy : y.dst = some t) : i = j := by
  induction l generalizing i j with
  | nil => simp at hi
  | cons z r ih =>
    have hn' : (dstsOf r).Nodup := by
      unfold dstsOf at h ⊢
      rw [List.filterMap_cons] at h
      cases hz : z.dst with
      | none => rw [hz] at h; exact h
      | some d => rw [hz] at h; simp only [List.nodup_cons] at h; exact h.2
    have hnot : ∀ (k : Nat) (u : Oper), r[k]? = some u → u.dst = some t → z.dst = some t → False := by
      intro k u hk hu hz
      unfold dstsOf at h
      rw [List.filterMap_cons, hz] at h
      simp only [List.nodup_cons] at h
      exact h.1 (List.mem_filterMap.2 ⟨u, List.mem_of_getElem? hk, hu⟩)
    cases i with
    | zero =>
      cases j with
      | zero => rfl
      | succ j =>
        simp at hi hj
        subst hi
        exact (hnot j y hj hy hx).elim
    | succ i =>
      cases j with
      | zero =>
        simp at hi hj
        subst hj
        exact (hnot i x hi hx hy).elim
      | succ j =>
        simp at hi hj
        rw [ih hn' hi hj]

theorem wpAny_good {P : Program} {l : List Oper} {Q : Exit → Act → World → Prop} {a0 : Act} {R : (Nat → Option Value) → World → Prop}
    (hg : noGuards l = true) (hb : backEdges l = true) (hd : dstsOk l a0.tmps.size = true) (hop : ∀ i o, l[i]? = some o → GoodOp P l Q a0 R i o)
    (hend : ∀ (v : Nat → Value) w, R (fun i => if i < l.length then some (v i) else none) w → Q .normal (putAll v l 0 a0) w) :
    ∀ (fuel : Nat) (m : Nat → Option Value) (listed : Array Bool) (a : Act) (w : World), (∀ i, i < l.length → listed.getD i false = false → 0 < fuel) → (l.length ≤ fuel + (List.range l.length).countP (fun i => listed.getD i false)) →
      JInv l a0 R m listed a w → wpAny P .any l.toArray Q fuel listed a w := by
  have hnd : (dstsOf l).Nodup ∧ ∀ d ∈ dstsOf l, d < a0.tmps.size := by
    unfold dstsOk at hd
    simp only [Bool.and_eq_true, decide_eq_true_eq, List.all_eq_true] at hd
    exact hd
  -- nothing is ready: all is listed
  have hall : ∀ (listed : Array Bool), listed.size = l.length → Region.ready .any l.toArray listed = [] → ∀ i, i < l.length → listed.getD i false = true := by
    intro listed hs hr i
    induction i using Nat.strongRecOn with
    | _ i ih =>
      intro hi
      by_cases hli : listed.getD i false = true
      · exact hli
      · exfalso
        have hmem : i ∈ Region.ready .any l.toArray listed := by
          rw [mem_ready]
          obtain ⟨o, ho⟩ : ∃ o, l[i]? = some o := ⟨l[i], by simp [hi]⟩
          refine ⟨?_, o, by simpa using ho, fun e he hbe => ?_⟩
          · have h1 : i < listed.size := by omega
            simp [h1] at hli ⊢
            exact hli
          · unfold backEdges at hb
            rw [List.all_eq_true] at hb
            have h2 := hb (o, i) (List.mem_zipIdx_iff_getElem?.2 (by simpa using ho))
            simp only [Array.all_eq_true_iff_forall_mem] at h2
            have h3 := h2 e he
            rw [hbe] at h3
            simp at h3
            exact ih e.on h3 (by omega)
        rw [hr] at hmem
        cases hmem
  have hfin : ∀ (m : Nat → Option Value) (listed : Array Bool) (a : Act) (w : World), JInv l a0 R m listed a w → Region.ready .any l.toArray listed = [] → Q .normal a w := by
    intro m listed a w hJ hr
    have hl := hall listed hJ.sz hr
    have ha : a = putAll (fun i => (m i).getD undef) l 0 a0 := by
      have hts : a.tmps = (putAll (fun i => (m i).getD undef) l 0 a0).tmps := by
        apply Array.ext_getElem?
        intro t
        by_cases hex : ∃ (i : Nat) (o : Oper), l[i]? = some o ∧ o.dst = some t
        · obtain ⟨i, o, hi, ho⟩ := hex
          have ht : t < a0.tmps.size := hnd.2 t (List.mem_filterMap.2 ⟨o, List.mem_of_getElem? hi, ho⟩)
          rw [putAll_at _ t l 0 i a0 o hnd.1 hi ho ht]
          rw [Nat.zero_add, hJ.good i o t hi ho (hl i (List.getElem?_eq_some_iff.1 hi).1), Option.getD_some, eval_tmp]
          have : t < a.tmps.size := by rw [hJ.ts]; exact ht
          simp [this]
        · rw [putAll_other]
          · exact hJ.same t (fun i o hi ho => (hex ⟨i, o, hi, ho⟩).elim)
          · intro o ho e
            obtain ⟨i, hi⟩ := List.getElem?_of_mem ho
            exact hex ⟨i, o, hi, e⟩
      have hdf : a.defers = (putAll (fun i => (m i).getD undef) l 0 a0).defers := by rw [putAll_defers, hJ.df]
      cases a
      simp at hts hdf
      generalize putAll _ _ _ _ = b at *
      cases b
      simp_all
    rw [ha]
    refine hend _ w ?_
    have hm : (fun i => if i < l.length then some ((m i).getD undef) else none) = m := by
      funext i
      by_cases h : i < l.length
      · rw [if_pos h]
        have h1 := hl i h
        cases hmi : m i with
        | none => rw [(hJ.none_ i).1 hmi] at h1; cases h1
        | some u => rfl
      · rw [if_neg h]
        have h2 : listed.getD i false = false := by
          have : ¬ i < listed.size := by rw [hJ.sz]; exact h
          simp [this]
        exact ((hJ.none_ i).2 h2).symm
    rw [hm]
    exact hJ.c
  intro fuel
  induction fuel with
  | zero =>
    intro m listed a w hf _ hJ
    have hr : Region.ready .any l.toArray listed = [] := by
      apply List.eq_nil_iff_forall_not_mem.2
      intro i hi
      rw [mem_ready] at hi
      obtain ⟨h0, o, ho, _⟩ := hi
      have hlt : i < l.length := by have := (Array.getElem?_eq_some_iff.1 ho).1; simpa using this
      have h1 : i < listed.size := by rw [hJ.sz]; exact hlt
      have := hf i hlt (by simp [h1] at h0 ⊢; exact h0)
      omega
    exact ⟨hr, hfin m listed a w hJ hr⟩
  | succ fuel ih =>
    intro m listed a w hf hc hJ
    refine ⟨hfin m listed a w hJ, fun i hi => ?_⟩
    rw [mem_ready] at hi
    obtain ⟨h0, o, ho, hedge⟩ := hi
    have ho' : l[i]? = some o := by simpa using ho
    have hlt : i < l.length := (List.getElem?_eq_some_iff.1 ho').1
    have hsz : i < listed.size := by rw [hJ.sz]; exact hlt
    have hgd : o.guard = none := by
      unfold noGuards at hg
      rw [List.all_eq_true] at hg
      simpa using hg o (List.mem_of_getElem? ho')
    have hw : Region.wanted o (yielded l.toArray a.tmps) = true := by simp [Region.wanted, hgd]
    unfold wpOp
    rw [ho]
    simp only [hw, if_true]
    refine .inl ?_
    have hli0 : listed.getD i false = false := by simp [hsz] at h0 ⊢; exact h0
    have h1 := hop i o ho' m a w hJ.c ((hJ.none_ i).2 hli0) (fun t ht => by
        rw [eval_tmp, eval_tmp, hJ.same t (fun j x hj hx => absurd hx (ht x (List.mem_of_getElem? hj)))])
      (fun j x t hj hx hxt => by
        obtain ⟨e, he, hbe, rfl⟩ := hj
        exact hJ.good _ x t hx hxt (hedge e he hbe))
    refine Oper.wp_mono ?_ h1
    rintro a' w' ⟨v, rfl, hC'⟩
    refine ih (updO m i v) _ _ _ ?_ ?_ ⟨by simp [hJ.sz], hC', by rw [put_defers']; exact hJ.df, by rw [put_size]; exact hJ.ts, ?_, ?_, ?_⟩
    · intro k hk hlk
      -- an unlisted one is left: so fuel is left
      by_cases hz : fuel = 0
      · exfalso
        subst hz
        have hki : k ≠ i := by intro e; subst e; simp [hsz] at hlk
        have hlk' : listed.getD k false = false := by rw [getD_set_ne false (Ne.symm hki)] at hlk; exact hlk
        have hli : listed.getD i false = false := by simp [hsz] at h0 ⊢; exact h0
        have hcount : (List.range l.length).countP (fun i => listed.getD i false) + 2 ≤ l.length := by
          have hperm : (List.range l.length).countP (fun i => listed.getD i false) + (List.range l.length).countP (fun x => x == i || x == k) ≤ l.length := by
            have hle : ∀ (r : List Nat), (∀ x ∈ r, (x == i || x == k) = true → listed.getD x false = false) → r.countP (fun i => listed.getD i false) + r.countP (fun x => x == i || x == k) ≤ r.length := by
              intro r
              induction r with
              | nil => simp
              | cons x r ihr =>
                intro hx
                have := ihr (fun y hy => hx y (by simp [hy]))
                have h3 := hx x (by simp)
                rw [List.countP_cons, List.countP_cons, List.length_cons]
                by_cases h4 : (x == i || x == k) = true
                · rw [h3 h4, h4]; simp only [Bool.false_eq_true, if_false, if_true]; omega
                · have h4' : (x == i || x == k) = false := by simpa using h4
                  rw [h4']; simp only [Bool.false_eq_true, if_false]; split <;> omega
            have := hle (List.range l.length) (fun x _ h => by
              simp only [Bool.or_eq_true, beq_iff_eq] at h
              rcases h with rfl | rfl
              · exact hli
              · exact hlk')
            simpa using this
          have h2 : 2 ≤ (List.range l.length).countP (fun x => x == i || x == k) := by
            have h5 : (List.range l.length).countP (fun x => x == i || x == k) = (List.range l.length).countP (fun x => x == i) + (List.range l.length).countP (fun x => x == k) := by
              generalize List.range l.length = r
              induction r with
              | nil => simp
              | cons x r ihr =>
                rw [List.countP_cons, List.countP_cons, List.countP_cons, ihr]
                by_cases e1 : x = i
                · subst e1
                  have : ¬ x = k := fun e => hki e.symm
                  simp [this]; omega
                · by_cases e2 : x = k
                  · subst e2; simp [e1]; omega
                  · simp [e1, e2]
            have h6 : 1 ≤ (List.range l.length).countP (fun x => x == i) := List.countP_pos_iff.2 ⟨i, by simp [hlt], by simp⟩
            have h7 : 1 ≤ (List.range l.length).countP (fun x => x == k) := List.countP_pos_iff.2 ⟨k, by simp [hk], by simp⟩
            omega
          omega
        omega
      · omega
    · -- one more is listed
      have hli : listed.getD i false = false := by simp [hsz] at h0 ⊢; exact h0
      have : (List.range l.length).countP (fun j => (listed.setIfInBounds i true).getD j false) = (List.range l.length).countP (fun j => listed.getD j false) + 1 := by
        have gen : ∀ (n : Nat), i < n → (List.range n).countP (fun j => (listed.setIfInBounds i true).getD j false) = (List.range n).countP (fun j => listed.getD j false) + 1 := by
          intro n
          induction n with
          | zero => intro h; omega
          | succ n ihn =>
            intro h
            rw [List.range_succ, List.countP_append, List.countP_append]
            by_cases e : i = n
            · subst e
              have h8 : (List.range i).countP (fun j => (listed.setIfInBounds i true).getD j false) = (List.range i).countP (fun j => listed.getD j false) :=
                List.countP_congr (fun j hj => by rw [getD_set_ne false (by have := List.mem_range.1 hj; omega)])
              rw [h8]
              simp only [List.countP_cons, List.countP_nil, hli]
              simp [hsz]
            · rw [ihn (by omega)]
              simp only [List.countP_cons, List.countP_nil, getD_set_ne false e]
              omega
        exact gen l.length hlt
      omega
    · intro j
      unfold updO
      by_cases e : j = i
      · subst e; rw [if_pos rfl]; simp [hsz]
      · rw [if_neg e, getD_set_ne false (Ne.symm e)]; exact hJ.none_ j
    · intro j x t hj hx hl
      by_cases e : j = i
      · subst e
        obtain rfl : o = x := by rw [ho'] at hj; injection hj
        have ht : t < a.tmps.size := by rw [hJ.ts]; exact hnd.2 t (List.mem_filterMap.2 ⟨o, List.mem_of_getElem? ho', hx⟩)
        rw [eval_tmp, hx, put_same _ _ _ ht]
        simp [updO]
      · rw [getD_set_ne false (Ne.symm e)] at hl
        have hne : o.dst ≠ some t := fun h => e (nodup_inj hnd.1 hj ho' hx h)
        rw [eval_tmp, put_other _ _ _ _ hne, ← eval_tmp]
        unfold updO
        rw [if_neg e]
        exact hJ.good j x t hj hx hl
    · intro t ht
      have hne : o.dst ≠ some t := fun h => by
        have := ht i o ho' h
        simp [hsz] at this
      rw [put_other _ _ _ _ hne]
      refine hJ.same t (fun j x hj hx => ?_)
      have h9 := ht j x hj hx
      by_cases e : j = i
      · subst e; simp [hsz] at h9
      · rw [getD_set_ne false (Ne.symm e)] at h9; exact h9

theorem wp_region_good {P : Program} {id : Nat} {l : List Oper} {Q : Exit → Act → World → Prop} {a0 : Act} {w : World} (hm : P.follows .mixedOrders = true) (hg : noGuards l = true) (hb : backEdges l = true) (hd : dstsOk l a0.tmps.size = true)
    (R : (Nat → Option Value) → World → Prop) (h0 : R (fun _ => none) w.drew) (hop : ∀ i o, l[i]? = some o → GoodOp P l Q a0 R i o)
    (hend : ∀ (v : Nat → Value) w, R (fun i => if i < l.length then some (v i) else none) w → Q .normal (putAll v l 0 a0) w) :
    (Code.region id l.toArray true).wp P Q a0 w := by
  refine wp_region_any hm ?_
  refine wpAny_good hg hb hd hop hend _ (fun _ => none) _ _ _ ?_ ?_ ⟨by simp, h0, rfl, rfl, ?_, ?_, fun t _ => rfl⟩
  · intro i hi _
    simp
    omega
  · simp
  · intro i
    by_cases h : i < l.length <;> simp [h]
  · intro i o t hi ho hl
    have : i < l.length := (List.getElem?_eq_some_iff.1 hi).1
    simp [this] at hl

/-- each operation of a list, by its number. -/
def OpsAll (F : Nat → Oper → Prop) : Nat → List Oper → Prop
  | _, [] => True
  | k, x :: r => F k x ∧ OpsAll F (k + 1) r

theorem OpsAll.all {F : Nat → Oper → Prop} : ∀ (l : List Oper) (k : Nat), OpsAll F k l → ∀ i o, l[i]? = some o → F (k + i) o
  | [], _, _, _, _, h => by simp at h
  | x :: r, k, hF, 0, o, h => by simp at h; subst h; exact hF.1
  | x :: r, k, hF, i + 1, o, h => by
    simp at h
    have := OpsAll.all r (k + 1) hF.2 i o h
    rw [show k + (i + 1) = k + 1 + i by omega]
    exact this

theorem OpsAll.all0 {F : Nat → Oper → Prop} {l : List Oper} (h : OpsAll F 0 l) : ∀ i o, l[i]? = some o → F i o := by
  intro i o hi
  have := OpsAll.all l 0 h i o hi
  rwa [Nat.zero_add] at this

section
variable {P : Program} {l : List Oper} {Q : Exit → Act → World → Prop} {a0 : Act} {R : (Nat → Option Value) → World → Prop} {i : Nat}

/-- what an operation of the region is told. -/
def Told (l : List Oper) (a0 : Act) (o : Oper) (m : Nat → Option Value) (a : Act) : Prop :=
  (∀ t, (∀ x ∈ l, x.dst ≠ some t) → a.eval (.tmp t) = a0.eval (.tmp t)) ∧
  ∀ (j : Nat) (x : Oper) (t : Nat), (∃ e ∈ o.after, Region.binds .any e = true ∧ e.on = j) → l[j]? = some x → x.dst = some t → m j = some (a.eval (.tmp t))

/-- a slot that the region does not write. -/
theorem Told.out {o : Oper} {m : Nat → Option Value} {a : Act} (h : Told l a0 o m a) (t : Nat) (ht : (dstsOf l).contains t = false) : a.eval (.tmp t) = a0.eval (.tmp t) :=
  h.1 t (fun x hx e => by
    have : t ∈ dstsOf l := List.mem_filterMap.2 ⟨x, hx, e⟩
    simp [this] at ht)

/-- a slot that operation j, an edge of this one, has written. -/
theorem Told.on {o : Oper} {m : Nat → Option Value} {a : Act} (h : Told l a0 o m a) (j t : Nat) (hj : o.after.any (fun e => Region.binds .any e && e.on == j) = true) (ht : ((l[j]?).bind (·.dst)) = some t) : m j = some (a.eval (.tmp t)) := by
  obtain ⟨x, hx, hxt⟩ := Option.bind_eq_some_iff.1 ht
  rw [Array.any_eq_true'] at hj
  obtain ⟨e, he, h2⟩ := hj
  simp only [Bool.and_eq_true, beq_iff_eq] at h2
  exact h.2 j x t ⟨e, he, h2.1, h2.2⟩ hx hxt

theorem goodMove {o : Oper} (x : Operand) (ho : o.op = .move x ∨ o.op = .assign x) (h : ∀ m a w, R m w → m i = none → Told l a0 o m a → R (updO m i (a.eval x)) w) : GoodOp P l Q a0 R i o := by
  intro m a w hR hm h1 h2
  have h3 := h m a w hR hm ⟨h1, h2⟩
  rcases ho with ho | ho <;> (unfold Oper.wp execOp; simp only [ho]; exact ⟨_, rfl, h3⟩)

theorem goodExtract {o : Oper} (x : Operand) (k : Nat) (ho : o.op = .extract x k) (h : ∀ m a w, R m w → m i = none → Told l a0 o m a → ∃ vs u, a.eval x = .tuple vs ∧ vs[k]? = some u ∧ R (updO m i u) w) : GoodOp P l Q a0 R i o := by
  intro m a w hR hm h1 h2
  obtain ⟨vs, u, e1, e2, h3⟩ := h m a w hR hm ⟨h1, h2⟩
  unfold Oper.wp execOp
  simp only [ho, e1, Instr.extract, e2]
  exact ⟨_, rfl, h3⟩

theorem goodMake {o : Oper} (t : TypeId) (x y : Operand) (ho : o.op = .makeSlice t x y) (h : ∀ m a w, R m w → m i = none → Told l a0 o m a → ∃ u w', (Instr.makeSlice t (a.eval x) (a.eval y)).run P w = .ok u w' ∧ R (updO m i u) w') : GoodOp P l Q a0 R i o := by
  intro m a w hR hm h1 h2
  obtain ⟨u, w', e1, h3⟩ := h m a w hR hm ⟨h1, h2⟩
  unfold Oper.wp execOp
  simp only [ho, Sem.run_bind, e1, Result.andThen_ok, Sem.run_pure]
  exact ⟨_, rfl, h3⟩

theorem goodCall {o : Oper} (f : FuncId) (xs : List Operand) (ats : Array TypeId) (fn : Func) (ho : o.op = .call { callee := .value (.func f), args := xs.toArray, argTypes := ats }) (hf : P.funcs[f]? = some fn) (hn : (fn.name == "runtime.NumGoroutine") = false) (hb : fn.body.isNone = false)
    (h : ∀ m a w, R m w → m i = none → Told l a0 o m a → Calls P f (xs.map a.eval).toArray w fun e w' => ∃ u, e = .returned u ∧ R (updO m i u) w') : GoodOp P l Q a0 R i o := by
  intro m a w hR hm h1 h2
  have h3 := h m a w hR hm ⟨h1, h2⟩
  have e1 : (execOp a.eval o).run P w = .ok (.enter f (xs.map a.eval).toArray) w := by
    obtain ⟨dst, op, ty, pos, after, guard⟩ := o
    simp only at ho
    subst ho
    rw [execOp_call_go]
    simp [callFunc, program, Sem.run, hf, bind, Sem.bind]
    rw [if_neg (by simpa using hn), if_neg (by intro e; rw [e] at hb; simp at hb)]
  unfold Oper.wp
  rw [e1, Oper.upon_enter]
  refine h3.mono ?_
  rintro e w' ⟨u, rfl, hr⟩
  exact ⟨u, rfl, hr⟩

end
end Go.Proofs.Qxb6601557a
