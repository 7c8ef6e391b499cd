/-
  triangleThread: its plain functions and the states of its loops. By an AI agent.
-/
import Derived.Test.Qxb6601557aCliqA
namespace Go.Proofs.Qxb6601557a
set_option linter.unusedVariables false
open Go.RowKit

def anyB (n : Nat) (p : Nat → Bool) : Bool := (List.range n).any p
theorem anyB_iff {n : Nat} {p : Nat → Bool} : anyB n p = true ↔ ∃ i, i < n ∧ p i = true := by simp [anyB]
theorem anyB_false {n : Nat} {p : Nat → Bool} : anyB n p = false ↔ ∀ i, i < n → p i = false := by simp [anyB]

section
variable (d : Nat → Nat) (N : Nat → Nat → Nat) (ok : Nat → Bool)

/-- q is a neighbour of p that is free and not plain. -/
def mkd (p q : Nat) : Bool := memN (d p) (N p) q && ok q
/-- a neighbour of q is marked for p. -/
def hmk (p q : Nat) : Bool := anyB (d q) fun j => mkd d N ok p (N q j)
/-- the scan over the first i neighbours of p: found, and what it has cost. -/
def triTo (p : Nat) : Nat → Bool × Nat
  | 0 => (false, 0)
  | i + 1 => if (triTo p i).1 then triTo p i else if mkd d N ok p (N p i) then (hmk d N ok p (N p i), (triTo p i).2 + d (N p i)) else (false, (triTo p i).2)
def triB (p : Nat) : Bool := (triTo d N ok p (d p)).1
def triC (p : Nat) : Nat := (triTo d N ok p (d p)).2 + 2 * d p

theorem triTo_found (p i : Nat) (h : (triTo d N ok p i).1 = true) : ∀ k, triTo d N ok p (i + k) = triTo d N ok p i
  | 0 => rfl
  | k + 1 => by
    have ih := triTo_found p i h k
    show (if (triTo d N ok p (i + k)).1 then triTo d N ok p (i + k) else _) = _
    rw [ih, h]
    simp

theorem triTo_found_le {p i j : Nat} (h : (triTo d N ok p i).1 = true) (hij : i ≤ j) : triTo d N ok p j = triTo d N ok p i := by
  have := triTo_found d N ok p i h (j - i)
  rwa [show i + (j - i) = j by omega] at this

theorem triTo_skip {p i : Nat} (h : (triTo d N ok p i).1 = false) (hm : mkd d N ok p (N p i) = false) : triTo d N ok p (i + 1) = (false, (triTo d N ok p i).2) := by
  show (if (triTo d N ok p i).1 then _ else _) = _
  rw [h, hm]; simp
theorem triTo_look {p i : Nat} (h : (triTo d N ok p i).1 = false) (hm : mkd d N ok p (N p i) = true) : triTo d N ok p (i + 1) = (hmk d N ok p (N p i), (triTo d N ok p i).2 + d (N p i)) := by
  show (if (triTo d N ok p i).1 then _ else _) = _
  rw [h, hm]; simp

/-- the places in order: where the answer stands, and the scans' cost. 'pl': plain. -/
def ttTo (pl : Nat → Bool) (O : Nat → Nat) : Nat → Option Nat × Nat
  | 0 => (none, 0)
  | m + 1 => if (ttTo pl O m).1.isSome || pl (O m) then ttTo pl O m else (if triB d N ok (O m) then some m else none, (ttTo pl O m).2 + triC d N ok (O m))

theorem ttTo_found (pl : Nat → Bool) (O : Nat → Nat) (m : Nat) (h : (ttTo d N ok pl O m).1.isSome = true) : ∀ k, ttTo d N ok pl O (m + k) = ttTo d N ok pl O m
  | 0 => rfl
  | k + 1 => by
    have ih := ttTo_found pl O m h k
    show (if (ttTo d N ok pl O (m + k)).1.isSome || _ then ttTo d N ok pl O (m + k) else _) = _
    rw [ih, h]
    simp

theorem ttTo_found_le {pl : Nat → Bool} {O : Nat → Nat} {m n : Nat} (h : (ttTo d N ok pl O m).1.isSome = true) (hmn : m ≤ n) : ttTo d N ok pl O n = ttTo d N ok pl O m := by
  have := ttTo_found d N ok pl O m h (n - m)
  rwa [show m + (n - m) = n by omega] at this

theorem ttTo_skip {pl : Nat → Bool} {O : Nat → Nat} {m : Nat} (hp : pl (O m) = true) : ttTo d N ok pl O (m + 1) = ttTo d N ok pl O m := by
  show (if (ttTo d N ok pl O m).1.isSome || pl (O m) then _ else _) = _
  rw [hp]; simp

theorem ttTo_scan {pl : Nat → Bool} {O : Nat → Nat} {m : Nat} (h : (ttTo d N ok pl O m).1 = none) (hp : pl (O m) = false) : ttTo d N ok pl O (m + 1) = (if triB d N ok (O m) then some m else none, (ttTo d N ok pl O m).2 + triC d N ok (O m)) := by
  show (if (ttTo d N ok pl O m).1.isSome || pl (O m) then _ else _) = _
  rw [hp, h]; simp

end

/-- scratch while the neighbours are marked. -/
def scM (N : Nat → Nat → Nat) (ok : Nat → Bool) (p i q : Nat) : Nat := if memN i (N p) q && ok q then 1 else 0
/-- scratch while it is put back. -/
def scZ (N : Nat → Nat → Nat) (f : Nat → Nat) (p i q : Nat) : Nat := if memN i (N p) q then 0 else f q

theorem memN_succ' (i : Nat) (f : Nat → Nat) (q : Nat) : memN (i + 1) f q = (memN i f q || (f i == q)) := by
  rw [Bool.eq_iff_iff]
  simp only [Bool.or_eq_true, memN_iff, beq_iff_eq]
  constructor
  · rintro ⟨j, hj, e⟩
    by_cases h : j = i
    · subst h; exact .inr e
    · exact .inl ⟨j, by omega, e⟩
  · rintro (⟨j, hj, e⟩ | e)
    · exact ⟨j, by omega, e⟩
    · exact ⟨i, by omega, e⟩

theorem scM_zero (N : Nat → Nat → Nat) (ok : Nat → Bool) (p : Nat) : scM N ok p 0 = fun _ => 0 := by funext q; simp [scM, memN]
theorem scM_hit {N : Nat → Nat → Nat} {ok : Nat → Bool} {p i : Nat} (h : ok (N p i) = true) : scM N ok p (i + 1) = upd (scM N ok p i) (N p i) 1 := by
  funext q
  unfold scM
  rw [memN_succ']
  by_cases e : q = N p i
  · subst e; rw [upd_same]; simp [h]
  · rw [upd_other _ _ _ _ e]
    have : (N p i == q) = false := by rw [beq_eq_false_iff_ne]; exact fun h => e h.symm
    rw [this, Bool.or_false]
theorem scM_skip {N : Nat → Nat → Nat} {ok : Nat → Bool} {p i : Nat} (h : ok (N p i) = false) : scM N ok p (i + 1) = scM N ok p i := by
  funext q
  unfold scM
  rw [memN_succ']
  by_cases e : q = N p i
  · subst e; simp [h]
  · have : (N p i == q) = false := by rw [beq_eq_false_iff_ne]; exact fun h => e h.symm
    rw [this, Bool.or_false]
theorem scM_all (d : Nat → Nat) (N : Nat → Nat → Nat) (ok : Nat → Bool) (p q : Nat) : scM N ok p (d p) q = if mkd d N ok p q then 1 else 0 := rfl

theorem scZ_zero (N : Nat → Nat → Nat) (f : Nat → Nat) (p : Nat) : scZ N f p 0 = f := by funext q; simp [scZ, memN]
theorem scZ_succ (N : Nat → Nat → Nat) (f : Nat → Nat) (p i : Nat) : scZ N f p (i + 1) = upd (scZ N f p i) (N p i) 0 := by
  funext q
  unfold scZ
  rw [memN_succ']
  by_cases e : q = N p i
  · subst e; rw [upd_same]; simp
  · rw [upd_other _ _ _ _ e]
    have : (N p i == q) = false := by rw [beq_eq_false_iff_ne]; exact fun h => e h.symm
    rw [this, Bool.or_false]
theorem scZ_end (d : Nat → Nat) (N : Nat → Nat → Nat) (ok : Nat → Bool) (p : Nat) : scZ N (scM N ok p (d p)) p (d p) = fun _ => 0 := by
  funext q
  unfold scZ scM
  cases h : memN (d p) (N p) q <;> simp

structure TriOut (w w' : World) (bs bsc : Nat) (v : Nat → Value) (n : Nat) (d : Nat → Nat) (N : Nat → Nat → Nat) (ok : Nat → Bool) (dg : Nat → Int) (np : Nat) (P : Nat → Nat) (pl : Nat → Bool) (asc : Option Addr) (csc : Nat) (steps : Int) (t : Nat) (O : Nat → Nat) : Prop where
  ord : OrdOk np dg P t O
  ext : Ext (fun k => k = bs ∨ k = bsc) w w'
  str : Own (fun k => k = bs) 66 w' (some ⟨bs, 0, none⟩) 12 12 (upd v 4 (.int .i64 (wrap64 (steps + (2 * np + t) + ((ttTo d N ok pl O np).2 : Nat)))))
  sc : Own (fun k => k = bsc) 3 w' asc n csc (fun _ => .int .i64 0)

def ttP (x : Option Nat × Nat) (O : Nat → Nat) : Nat := match x.1 with | some k => O k | none => 0

end Go.Proofs.Qxb6601557a
