/-
  PLAIN LAWS ON RUNS AND STRETCHES, MORE: what holds of the stretches gathered so far, round after round. No Go in sight.
-/
import Derived.Test.Qxb6000744aModsLostPlain
namespace Go.Proofs.Qxb6000744aMods.Lost

/-- The stretches of each shard: (From, To). -/
abbrev Lists := Nat → List (Int × Int)

/-- Shard i's list, one stretch longer. -/
def upd (L : Lists) (i : Nat) (s : Int × Int) : Lists := fun j => if j = i then L j ++ [s] else L j

theorem upd_same (L : Lists) (i : Nat) (s : Int × Int) : upd L i s i = L i ++ [s] := by simp [upd]
theorem upd_other (L : Lists) {i j : Nat} (s : Int × Int) (h : j ≠ i) : upd L i s j = L j := by simp [upd, h]

/-- The lengths of a list of stretches, added up. -/
def lsum : List (Int × Int) → Int
  | [] => 0
  | s :: r => (s.2 - s.1) + lsum r

theorem lsum_append (l r : List (Int × Int)) : lsum (l ++ r) = lsum l + lsum r := by
  induction l with
  | nil => simp [lsum]
  | cons s l ih => simp only [List.cons_append, lsum, ih]; omega

/-- .. over the shards below n. -/
def tot (L : Lists) : Nat → Int
  | 0 => 0
  | n + 1 => tot L n + lsum (L n)

theorem tot_congr {L L' : Lists} {n : Nat} (h : ∀ j, j < n → L' j = L j) : tot L' n = tot L n := by
  induction n with
  | zero => rfl
  | succ n ih => simp only [tot, ih (fun j hj => h j (by omega)), h n (by omega)]

theorem tot_upd (L : Lists) {i n : Nat} (s : Int × Int) (h : i < n) : tot (upd L i s) n = tot L n + (s.2 - s.1) := by
  induction n with
  | zero => omega
  | succ n ih =>
    by_cases e : i = n
    · subst e
      have h1 : tot (upd L i s) i = tot L i := tot_congr fun j hj => upd_other L s (by omega)
      simp only [tot, h1, upd_same, lsum_append, lsum]
      omega
    · have h1 : upd L i s n = L n := upd_other L s (by omega)
      simp only [tot, ih (by omega), h1]
      omega

/-- Every stretch lies within a shard of d bytes and is not empty. -/
def InD (d : Int) (l : List (Int × Int)) : Prop := ∀ s, s ∈ l → 0 ≤ s.1 ∧ s.1 < s.2 ∧ s.2 ≤ d

theorem InD.snoc {d : Int} {l : List (Int × Int)} {s : Int × Int} (h : InD d l) (hs : 0 ≤ s.1 ∧ s.1 < s.2 ∧ s.2 ≤ d) : InD d (l ++ [s]) := by
  intro u hu
  rcases List.mem_append.1 hu with hu | hu
  · exact h u hu
  · obtain rfl : u = s := by simpa using hu
    exact hs

theorem InD.length_le {d : Int} {l : List (Int × Int)} (h : InD d l) : (l.length : Int) ≤ lsum l := by
  induction l with
  | nil => simp [lsum]
  | cons s l ih =>
    have h1 := h s (by simp)
    have h2 := ih (fun u hu => h u (by simp [hu]))
    simp only [List.length_cons, lsum]
    omega

theorem InD.take {d : Int} {l : List (Int × Int)} (h : InD d l) (k : Nat) : InD d (l.take k) := fun s hs => h s (List.mem_of_mem_take hs)
theorem InD.drop {d : Int} {l : List (Int × Int)} (h : InD d l) (k : Nat) : InD d (l.drop k) := fun s hs => h s (List.mem_of_mem_drop hs)

theorem InD.lsum_nonneg {d : Int} {l : List (Int × Int)} (h : InD d l) : 0 ≤ lsum l := by
  have := h.length_le
  omega

theorem tot_nonneg {d : Int} {L : Lists} {n : Nat} (h : ∀ j, j < n → InD d (L j)) : 0 ≤ tot L n := by
  induction n with
  | zero => exact Int.le_refl 0
  | succ n ih =>
    have h0 := (h n (by omega)).lsum_nonneg
    have h1 := ih (fun j hj => h j (by omega))
    simp only [tot]
    omega

theorem tot_le {d : Int} {L : Lists} {i n : Nat} (h : ∀ j, j < n → InD d (L j)) (hi : i ≤ n) : tot L i ≤ tot L n := by
  induction n with
  | zero => obtain rfl : i = 0 := by omega
            exact Int.le_refl _
  | succ n ih =>
    by_cases e : i = n + 1
    · subst e; exact Int.le_refl _
    · have h0 := (h n (by omega)).lsum_nonneg
      have h1 := ih (fun j hj => h j (by omega)) (by omega)
      simp only [tot]
      omega

/-- One list behind the other: each stretch begins where the one before it has ended, or later. -/
def Chain (l : List (Int × Int)) : Prop := ∀ m, m + 1 < l.length → (l.getD m (0, 0)).2 ≤ (l.getD (m + 1) (0, 0)).1

theorem Chain.snoc {l : List (Int × Int)} {s : Int × Int} (h : Chain l) (hs : ∀ u, u ∈ l → u.2 ≤ s.1) : Chain (l ++ [s]) := by
  intro m hm
  simp only [List.length_append, List.length_cons, List.length_nil] at hm
  by_cases e : m + 1 < l.length
  · have := h m e
    simp only [List.getD_eq_getElem?_getD, List.getElem?_append_left (show m < l.length by omega), List.getElem?_append_left e] at this ⊢
    exact this
  · have h1 : m < l.length := by omega
    have h2 : (l ++ [s]).getD (m + 1) (0, 0) = s := by
      rw [List.getD_eq_getElem?_getD, List.getElem?_append_right (by omega), show m + 1 - l.length = 0 by omega]; rfl
    have h3 : (l ++ [s]).getD m (0, 0) = l[m] := by
      rw [List.getD_eq_getElem?_getD, List.getElem?_append_left h1, List.getElem?_eq_getElem h1]; rfl
    rw [h2, h3]
    exact hs _ (List.getElem_mem h1)

/-- Byte y lies in one of the first k runs. -/
def CovO (f t : Nat → Int) (k : Nat) (y : Int) : Prop := ∃ j, j < k ∧ f j ≤ y ∧ y < t j

theorem SortedL.mono {f t : Nat → Int} {len k j : Nat} (h : SortedL f t len) (hk : k < j) (hj : j < len) : t k ≤ f j := by
  induction j with
  | zero => omega
  | succ j ih =>
    have h1 := (h (j + 1) hj).2 (by omega)
    simp only [Nat.add_sub_cancel] at h1
    by_cases e : k = j
    · subst e; exact h1
    · have h2 := ih (by omega) (by omega)
      have h3 := (h j (by omega)).1
      omega

/-- WHAT HOLDS BEHIND k WHOLE RUNS. -/
structure OInv (f t : Nat → Int) (len n : Nat) (d : Int) (k : Nat) (L : Lists) : Prop where
  inD : ∀ i, i < n → InD d (L i)
  cov : ∀ i : Nat, i < n → ∀ c, 0 ≤ c → c < d → ((∃ s, s ∈ L i ∧ s.1 ≤ c ∧ c < s.2) ↔ CovO f t k (i * d + c))
  sum : tot L n = sumTo f t k
  srt : SortedL f t len → ∀ i : Nat, i < n → Chain (L i) ∧ ∀ s, s ∈ L i → ∀ j, k ≤ j → j < len → i * d + s.2 ≤ f j

/-- WHAT HOLDS WITHIN RUN k, at byte x. -/
structure IInv (f t : Nat → Int) (len n : Nat) (d : Int) (k : Nat) (x : Int) (L : Lists) : Prop where
  lo : f k ≤ x
  hi : x = f k ∨ x ≤ t k
  inD : ∀ i, i < n → InD d (L i)
  cov : ∀ i : Nat, i < n → ∀ c, 0 ≤ c → c < d → ((∃ s, s ∈ L i ∧ s.1 ≤ c ∧ c < s.2) ↔ CovO f t k (i * d + c) ∨ (f k ≤ i * d + c ∧ i * d + c < x))
  sum : tot L n = sumTo f t k + (x - f k)
  srt : SortedL f t len → ∀ i : Nat, i < n → Chain (L i) ∧ ∀ s, s ∈ L i → i * d + s.2 ≤ x

theorem OInv.start (f t : Nat → Int) (len n : Nat) (d : Int) : OInv f t len n d 0 (fun _ => []) where
  inD := fun i _ s hs => by cases hs
  cov := fun i _ c _ _ => ⟨fun ⟨s, hs, _⟩ => by simp at hs, fun ⟨j, hj, _⟩ => by omega⟩
  sum := by
    have h : ∀ m, tot (fun _ => []) m = 0 := by
      intro m
      induction m with
      | zero => rfl
      | succ m ih => simp only [tot, ih, lsum]; omega
    rw [h]; rfl
  srt := fun _ i _ => ⟨fun m hm => by simp at hm, fun s hs => by simp at hs⟩

theorem OInv.enter {f t : Nat → Int} {len n : Nat} {d : Int} {k : Nat} {L : Lists} (h : OInv f t len n d k L) (hk : k < len) : IInv f t len n d k (f k) L where
  lo := Int.le_refl _
  hi := .inl rfl
  inD := h.inD
  cov := fun i hi c h0 h1 => (h.cov i hi c h0 h1).trans ⟨.inl, fun h => by rcases h with h | h; exact h; omega⟩
  sum := by rw [h.sum]; omega
  srt := fun hs i hi => ⟨(h.srt hs i hi).1, fun s hm => (h.srt hs i hi).2 s hm k (Nat.le_refl _) hk⟩

theorem IInv.leave {f t : Nat → Int} {len n : Nat} {d : Int} {k : Nat} {x : Int} {L : Lists} (h : IInv f t len n d k x L) (_hk : k < len) (hx : ¬ x < t k) : OInv f t len n d (k + 1) L where
  inD := h.inD
  cov := fun i hi c h0 h1 => (h.cov i hi c h0 h1).trans ⟨fun h2 => by
      rcases h2 with ⟨j, hj, h3⟩ | ⟨h3, h4⟩
      · exact ⟨j, by omega, h3⟩
      · refine ⟨k, by omega, h3, ?_⟩
        have := h.hi
        omega, fun ⟨j, hj, h3, h4⟩ => by
      by_cases e : j = k
      · subst e; exact .inr ⟨h3, by have := h.hi; omega⟩
      · exact .inl ⟨j, by omega, h3, h4⟩⟩
  sum := by
    rw [h.sum]
    have h1 := h.lo
    have h2 := h.hi
    by_cases e : f k < t k
    · rw [sumTo_pos e]; omega
    · rw [sumTo_neg e]; omega
  srt := fun hs i hi => ⟨(h.srt hs i hi).1, fun s hm j hj hj2 => by
    have h1 := (h.srt hs i hi).2 s hm
    have h2 := hs.mono (k := k) (j := j) (by omega) hj2
    have h3 := h.hi
    have h4 := (hs k (by omega)).1
    omega⟩

theorem mul_apart {d : Int} {i j : Nat} (hd : 1 ≤ d) (h : j < i) : (j : Int) * d + d ≤ (i : Int) * d := by
  have h1 : ((j : Int) + 1) * d ≤ (i : Int) * d := Int.mul_le_mul_of_nonneg_right (by omega) (by omega)
  rw [Int.add_mul, Int.one_mul] at h1
  exact h1

theorem IInv.step {f t : Nat → Int} {len n : Nat} {d : Int} {k : Nat} {x e : Int} {L : Lists} (h : IInv f t len n d k x L) {i : Nat} (hi : i < n) (hd : 1 ≤ d)
    (h1 : (i : Int) * d ≤ x) (h2 : x < e) (h3 : e ≤ t k) (h4 : e ≤ (i : Int) * d + d) : IInv f t len n d k e (upd L i (x - i * d, e - i * d)) where
  lo := by have := h.lo; omega
  hi := .inr h3
  inD := fun j hj => by
    by_cases ej : j = i
    · subst ej
      rw [upd_same]
      exact (h.inD j hj).snoc ⟨by show 0 ≤ x - (j : Int) * d; omega, by show x - (j : Int) * d < e - (j : Int) * d; omega, by show e - (j : Int) * d ≤ d; omega⟩
    · rw [upd_other _ _ ej]; exact h.inD j hj
  cov := fun j hj c c0 c1 => by
    have hlo := h.lo
    have hold := h.cov j hj c c0 c1
    by_cases ej : j = i
    · subst ej
      rw [upd_same]
      constructor
      · rintro ⟨s, hs, hs1, hs2⟩
        rcases List.mem_append.1 hs with hs | hs
        · rcases hold.1 ⟨s, hs, hs1, hs2⟩ with h5 | h5
          · exact .inl h5
          · exact .inr ⟨h5.1, by omega⟩
        · obtain rfl : s = (x - j * d, e - j * d) := by simpa using hs
          simp only at hs1 hs2
          exact .inr ⟨by omega, by omega⟩
      · intro h5
        by_cases h6 : x ≤ (j : Int) * d + c ∧ (j : Int) * d + c < e
        · exact ⟨(x - j * d, e - j * d), by simp, by simp only; omega, by simp only; omega⟩
        · obtain ⟨s, hs, h7⟩ := hold.2 (by rcases h5 with h5 | h5; exact .inl h5; exact .inr ⟨h5.1, by omega⟩)
          exact ⟨s, List.mem_append.2 (.inl hs), h7⟩
    · rw [upd_other _ _ ej]
      refine hold.trans ?_
      have hap : ¬ (x ≤ (j : Int) * d + c ∧ (j : Int) * d + c < e) := by
        rcases Nat.lt_or_ge j i with hlt | hge
        · have := mul_apart hd hlt
          omega
        · have := mul_apart hd (show i < j by omega)
          omega
      constructor
      · intro h5
        rcases h5 with h5 | h5
        · exact .inl h5
        · exact .inr ⟨h5.1, by omega⟩
      · intro h5
        rcases h5 with h5 | h5
        · exact .inl h5
        · exact .inr ⟨h5.1, by omega⟩
  sum := by
    rw [tot_upd L _ hi, h.sum]
    simp only
    omega
  srt := fun hs j hj => by
    have hold := h.srt hs j hj
    by_cases ej : j = i
    · subst ej
      rw [upd_same]
      refine ⟨hold.1.snoc fun u hu => ?_, fun u hu => ?_⟩
      · have := hold.2 u hu
        simp only
        omega
      · rcases List.mem_append.1 hu with hu | hu
        · have := hold.2 u hu
          omega
        · obtain rfl : u = (x - j * d, e - j * d) := by simpa using hu
          simp only
          omega
    · rw [upd_other _ _ ej]
      exact ⟨hold.1, fun u hu => by have := hold.2 u hu; omega⟩

/-- How many stretches a shard has: no more than there are bytes in the runs. -/
theorem IInv.length_le {f t : Nat → Int} {len n : Nat} {d : Int} {k : Nat} {x : Int} {L : Lists} (h : IInv f t len n d k x L) {i : Nat} (hi : i < n) : ((L i).length : Int) ≤ sumTo f t k + (x - f k) := by
  have h1 := (h.inD i hi).length_le
  have h2 : lsum (L i) ≤ tot L (i + 1) := by
    have := tot_nonneg (L := L) (n := i) (fun j hj => h.inD j (by omega))
    simp only [tot]; omega
  have h3 := tot_le (L := L) (i := i + 1) (n := n) h.inD (by omega)
  have h4 := h.sum
  omega

end Go.Proofs.Qxb6000744aMods.Lost
