/-
  Plain notions and laws, no Go in sight. By an AI agent.
-/
namespace Go.Proofs.Qxb6601557a

/-- f is strictly increasing below n. -/
def Inc (n : Nat) (f : Nat → Int) : Prop := ∀ i j, i < j → j < n → f i < f j

/-- x is among the first n numbers of f. -/
def memB (n : Nat) (f : Nat → Int) (x : Int) : Bool := (List.range n).any fun j => f j == x

theorem memB_iff {n : Nat} {f : Nat → Int} {x : Int} : memB n f x = true ↔ ∃ j, j < n ∧ f j = x := by
  simp [memB]

theorem memB_false_iff {n : Nat} {f : Nat → Int} {x : Int} : memB n f x = false ↔ ∀ j, j < n → f j ≠ x := by
  simp [memB]

/-- the binary search's last line. -/
theorem memB_at {n : Nat} {f : Nat → Int} {x : Int} {l : Nat} (hi : Inc n f) (hlo : ∀ j, j < l → j < n → f j < x) (hhi : ∀ j, l ≤ j → j < n → x ≤ f j) :
    memB n f x = (decide (l < n) && (f l == x)) := by
  rw [Bool.eq_iff_iff, memB_iff]
  simp only [Bool.and_eq_true, decide_eq_true_eq, beq_iff_eq]
  constructor
  · rintro ⟨j, hj, e⟩
    have h1 : l ≤ j := by
      rcases Nat.lt_or_ge j l with h | h
      · have := hlo j h hj; omega
      · exact h
    rcases Nat.lt_or_ge l j with h | h
    · have := hi l j h hj
      have := hhi l (Nat.le_refl _) (by omega)
      omega
    · have : j = l := by omega
      subst this
      exact ⟨hj, e⟩
  · rintro ⟨h1, h2⟩
    exact ⟨l, h1, h2⟩

end Go.Proofs.Qxb6601557a
