/-
  PLAIN LAWS ON VOTES: no Go in sight.
-/
namespace Go.Proofs.Qxb6000744aMods.Most

/-- How many of the first k pieces have byte v at place j. -/
def cnt (z : Nat → Nat → Nat) (j v : Nat) : Nat → Nat
  | 0 => 0
  | k + 1 => cnt z j v k + (if z k j = v then 1 else 0)

theorem cnt_le (z : Nat → Nat → Nat) (j v k : Nat) : cnt z j v k ≤ k := by
  induction k with
  | zero => exact Nat.le_refl 0
  | succ k ih => unfold cnt; split <;> omega

theorem cnt_hit {z : Nat → Nat → Nat} {j k : Nat} : cnt z j (z k j) (k + 1) = cnt z j (z k j) k + 1 := by
  show cnt z j (z k j) k + (if z k j = z k j then 1 else 0) = _
  rw [if_pos rfl]

theorem cnt_miss {z : Nat → Nat → Nat} {j v k : Nat} (h : v ≠ z k j) : cnt z j v (k + 1) = cnt z j v k := by
  show cnt z j v k + (if z k j = v then 1 else 0) = _
  rw [if_neg (fun e => h e.symm)]; rfl

theorem cnt_pos {z : Nat → Nat → Nat} {j k r : Nat} (h : r < k) : 1 ≤ cnt z j (z r j) k := by
  induction k with
  | zero => omega
  | succ k ih =>
    by_cases e : r = k
    · subst e; rw [cnt_hit]; omega
    · have := ih (by omega)
      unfold cnt
      omega

/-- Among the bytes below v, b has the most votes, and is the lowest of those that have. -/
structure Best (z : Nat → Nat → Nat) (j len v b : Nat) : Prop where
  lt : b < 256
  le : b ≤ v
  most : ∀ u, u < v → cnt z j u len ≤ cnt z j b len
  low : ∀ u, u < v → cnt z j u len = cnt z j b len → b ≤ u

theorem Best.start (z : Nat → Nat → Nat) (j len : Nat) : Best z j len 0 0 := ⟨by omega, Nat.le_refl _, fun u h => by omega, fun u h => by omega⟩

theorem Best.more {z : Nat → Nat → Nat} {j len v b : Nat} (h : Best z j len v b) (hv : v < 256) (hc : cnt z j b len < cnt z j v len) : Best z j len (v + 1) v where
  lt := hv
  le := by omega
  most := fun u hu => by
    by_cases e : u = v
    · subst e; exact Nat.le_refl _
    · have := h.most u (by omega); omega
  low := fun u hu e => by
    by_cases e2 : u = v
    · omega
    · have := h.most u (by omega); omega

theorem Best.less {z : Nat → Nat → Nat} {j len v b : Nat} (h : Best z j len v b) (hc : ¬ cnt z j b len < cnt z j v len) : Best z j len (v + 1) b where
  lt := h.lt
  le := by have := h.le; omega
  most := fun u hu => by
    by_cases e : u = v
    · subst e; omega
    · exact h.most u (by omega)
  low := fun u hu e => by
    by_cases e2 : u = v
    · have := h.le; omega
    · exact h.low u (by omega) e

/-- The winner at place j. -/
def Win (z : Nat → Nat → Nat) (j len b : Nat) : Prop := Best z j len 256 b

theorem Win.votes {z : Nat → Nat → Nat} {j len b : Nat} (h : Win z j len b) (hl : 0 < len) (hz : z 0 j < 256) : 1 ≤ cnt z j b len := by
  have h1 := h.most (z 0 j) hz
  have h2 := cnt_pos (z := z) (j := j) hl
  omega

end Go.Proofs.Qxb6000744aMods.Most
