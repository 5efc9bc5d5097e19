/-
  PLAIN LAWS ON RUNS AND STRETCHES: no Go in sight.
-/
namespace Go.Proofs.Qxb6000744aMods.Lost

/-- The runs' lengths, the empty ones aside, up to run k. -/
def sumTo (f t : Nat → Int) : Nat → Int
  | 0 => 0
  | k + 1 => sumTo f t k + (if f k < t k then t k - f k else 0)

theorem sumTo_nonneg (f t : Nat → Int) (k : Nat) : 0 ≤ sumTo f t k := by
  induction k with
  | zero => exact Int.le_refl 0
  | succ k ih => unfold sumTo; split <;> omega

theorem sumTo_le (f t : Nat → Int) {j k : Nat} (h : j ≤ k) : sumTo f t j ≤ sumTo f t k := by
  induction k with
  | zero => have : j = 0 := by omega
            subst this; exact Int.le_refl _
  | succ k ih =>
    by_cases e : j = k + 1
    · subst e; exact Int.le_refl _
    · have := ih (by omega)
      have h2 : sumTo f t (k + 1) = sumTo f t k + (if f k < t k then t k - f k else 0) := rfl
      split at h2 <;> omega

theorem sumTo_pos {f t : Nat → Int} {k : Nat} (h : f k < t k) : sumTo f t (k + 1) = sumTo f t k + (t k - f k) := by
  show sumTo f t k + (if f k < t k then t k - f k else 0) = _
  rw [if_pos h]

theorem sumTo_neg {f t : Nat → Int} {k : Nat} (h : ¬ f k < t k) : sumTo f t (k + 1) = sumTo f t k := by
  show sumTo f t k + (if f k < t k then t k - f k else 0) = _
  rw [if_neg h]; omega

/-- What lostFits asks. -/
structure FitsL (f t : Nat → Int) (len : Nat) (n d : Int) : Prop where
  small : len ≤ 4096
  d1 : 1 ≤ d
  d2 : d ≤ 65536
  n1 : 1 ≤ n
  n2 : n ≤ 65536
  nd : n * d ≤ 1048576
  run : ∀ i, i < len → 0 ≤ f i ∧ t i ≤ n * d
  sum : sumTo f t len ≤ 1048576

/-- Runs in order and apart. -/
def SortedL (f t : Nat → Int) (len : Nat) : Prop := ∀ i, i < len → f i ≤ t i ∧ (0 < i → t (i - 1) ≤ f i)

theorem nd_le {n d : Int} (h0 : 1 ≤ d) (h : n ≤ 1048576 / d) : n * d ≤ 1048576 := by
  have h1 := Int.mul_le_mul_of_nonneg_right h (show 0 ≤ d by omega)
  have h2 := Int.ediv_mul_le 1048576 (show d ≠ 0 by omega)
  omega

theorem nd_ge {n d : Int} (h0 : 1 ≤ d) (h1 : 1 ≤ n) : 1 ≤ n * d ∧ n ≤ n * d ∧ d ≤ n * d := by
  have a := Int.mul_le_mul_of_nonneg_left h0 (show 0 ≤ n by omega)
  have b := Int.mul_le_mul_of_nonneg_right h1 (show 0 ≤ d by omega)
  omega

end Go.Proofs.Qxb6000744aMods.Lost
