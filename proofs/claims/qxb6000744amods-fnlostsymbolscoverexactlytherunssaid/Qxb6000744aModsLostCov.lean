/-
  ROWS OF BOOLS THAT ARE MARKED, AND WHAT THE STRETCHES COVER.
-/
import Derived.Test.Qxb6000744aModsLostGot
namespace Go.Proofs.Qxb6000744aMods.Lost
open Go.RowKit

/-- Block b is a row of M bools: true just where S holds. -/
def BoolRow (w : World) (b M : Nat) (S : Int → Prop) : Prop := ∃ P : Nat → Bool, w.rowIs b 4 M (fun j => .bool (P j)) ∧ ∀ j : Nat, j < M → (P j = true ↔ S j)

theorem info4 : (Trym.prog.info? 4).map (fun i => (i.zero, i.size, i.bytes)) = some (some (.bool false), 1, 1) := by kernel_rfl

theorem BoolRow.start (w : World) (M : Nat) : BoolRow (w.alloc (.cells (madeCells #[.bool false] M) 4)) w.heap.size M (fun _ => False) :=
  ⟨fun _ => false, World.rowIs_made w (.bool false) M 4, fun _ _ => ⟨fun h => by simp at h, fun h => h.elim⟩⟩

theorem BoolRow.congr {w : World} {b M : Nat} {S S' : Int → Prop} (h : BoolRow w b M S) (e : ∀ j : Nat, j < M → (S j ↔ S' j)) : BoolRow w b M S' := by
  obtain ⟨P, h1, h2⟩ := h
  exact ⟨P, h1, fun j hj => (h2 j hj).trans (e j hj)⟩

theorem BoolRow.mark {w : World} {b M : Nat} {S : Int → Prop} (h : BoolRow w b M S) (y : Nat) : BoolRow (w.setCell ⟨b, y, none⟩ (.bool true)) b M (fun z => S z ∨ z = y) := by
  obtain ⟨P, h1, h2⟩ := h
  refine ⟨fun j => if j = y then true else P j, (h1.set y _).congr fun i _ => ?_, fun j hj => ?_⟩
  · by_cases e : i = y <;> simp [e]
  · by_cases e : j = y
    · subst e; simp
    · have e2 : ¬ (j : Int) = (y : Int) := by omega
      simp only [if_neg e, h2 j hj, e2, or_false]

theorem BoolRow.cell {w : World} {b M : Nat} {S : Int → Prop} (h : BoolRow w b M S) {j : Nat} (hj : j < M) : ∃ v, w.cell? ⟨b, j, none⟩ = some (.bool v) ∧ (v = true ↔ S j) := by
  obtain ⟨P, h1, h2⟩ := h
  exact ⟨P j, h1.cell hj, h2 j hj⟩

theorem BoolRow.frozen {w : World} {b M : Nat} {S : Int → Prop} (h : BoolRow w b M S) (j : Nat) : w.frozen? ⟨b, j, none⟩ = false := by
  obtain ⟨P, h1, _⟩ := h
  exact h1.frozen j

theorem BoolRow.lt {w : World} {b M : Nat} {S : Int → Prop} (h : BoolRow w b M S) : b < w.heap.size := by
  obtain ⟨P, h1, _⟩ := h
  exact h1.lt

theorem BoolRow.alloc {w : World} {b M : Nat} {S : Int → Prop} (h : BoolRow w b M S) (o : Obj) : BoolRow (w.alloc o) b M S := by
  obtain ⟨P, h1, h2⟩ := h
  exact ⟨P, h1.alloc o, h2⟩

theorem BoolRow.below {w w' : World} {b M B : Nat} {S : Int → Prop} (h : BoolRow w b M S) (hb : Below B w w') (hB : b < B) : BoolRow w' b M S := by
  obtain ⟨P, h1, h2⟩ := h
  exact ⟨P, h1.of_block (hb.block b hB), h2⟩

/-- Byte z lies in a stretch of one of the first j shards. -/
def HV (L : Lists) (d : Int) (j : Nat) (z : Int) : Prop := ∃ i : Nat, i < j ∧ ∃ s, s ∈ L i ∧ (i : Int) * d + s.1 ≤ z ∧ z < (i : Int) * d + s.2

/-- .. or in one of the first m stretches of shard j. -/
def HV2 (L : Lists) (d : Int) (j m : Nat) (z : Int) : Prop := HV L d j z ∨ ∃ s, s ∈ (L j).take m ∧ (j : Int) * d + s.1 ≤ z ∧ z < (j : Int) * d + s.2

theorem HV_zero (L : Lists) (d z : Int) : ¬ HV L d 0 z := fun ⟨_, h, _⟩ => by omega

theorem HV2_zero (L : Lists) (d : Int) (j : Nat) (z : Int) : HV2 L d j 0 z ↔ HV L d j z := by
  constructor
  · rintro (h | ⟨s, hs, _⟩)
    · exact h
    · simp at hs
  · exact .inl

theorem HV2_full (L : Lists) (d : Int) (j : Nat) (z : Int) : HV2 L d j (L j).length z ↔ HV L d (j + 1) z := by
  constructor
  · rintro (⟨i, hi, h⟩ | ⟨s, hs, h⟩)
    · exact ⟨i, by omega, h⟩
    · exact ⟨j, by omega, s, by simpa using hs, h⟩
  · rintro ⟨i, hi, s, hs, h⟩
    by_cases e : i = j
    · subst e; exact .inr ⟨s, by simpa using hs, h⟩
    · exact .inl ⟨i, by omega, s, hs, h⟩

theorem HV2_succ {L : Lists} {d : Int} {j m : Nat} (hm : m < (L j).length) (z : Int) : HV2 L d j (m + 1) z ↔ HV2 L d j m z ∨ ((j : Int) * d + ((L j).getD m (0, 0)).1 ≤ z ∧ z < (j : Int) * d + ((L j).getD m (0, 0)).2) := by
  have e : (L j).getD m (0, 0) = (L j)[m] := by rw [List.getD_eq_getElem?_getD, List.getElem?_eq_getElem hm]; rfl
  rw [e]
  unfold HV2
  rw [List.take_succ_eq_append_getElem hm]
  constructor
  · rintro (h | ⟨s, hs, h⟩)
    · exact .inl (.inl h)
    · rcases List.mem_append.1 hs with hs | hs
      · exact .inl (.inr ⟨s, hs, h⟩)
      · obtain rfl : s = (L j)[m] := by simpa using hs
        exact .inr h
  · rintro ((h | ⟨s, hs, h⟩) | h)
    · exact .inl h
    · exact .inr ⟨s, List.mem_append.2 (.inl hs), h⟩
    · exact .inr ⟨_, List.mem_append.2 (.inr (by simp)), h⟩

theorem mark_run (C : Prop) {a z y : Int} (h : a ≤ y) : ((C ∨ (a ≤ z ∧ z < y)) ∨ z = y) ↔ (C ∨ (a ≤ z ∧ z < y + 1)) := by
  constructor
  · rintro ((h1 | h1) | h1)
    · exact .inl h1
    · exact .inr ⟨h1.1, by omega⟩
    · exact .inr ⟨by omega, by omega⟩
  · rintro (h1 | h1)
    · exact .inl (.inl h1)
    · by_cases e : z = y
      · exact .inr e
      · exact .inl (.inr ⟨h1.1, by omega⟩)

/-- THE STRETCHES COVER JUST WHAT THE RUNS COVER. -/
theorem cover {f t : Nat → Int} {len N : Nat} {d : Int} {L : Lists} (h : OInv f t len N d len L) (hd : 1 ≤ d) {z : Int} (h0 : 0 ≤ z) (h1 : z < N * d) : HV L d N z ↔ CovO f t len z := by
  obtain ⟨i, hq, hi, p0, p1, p2, p3⟩ := shard_of hd h0 h1 (Int.le_refl _)
  have hc := h.cov i hi (z - i * d) (by omega) (by omega)
  rw [show (i : Int) * d + (z - i * d) = z by omega] at hc
  refine Iff.trans ?_ hc
  constructor
  · rintro ⟨j, hj, s, hs, h2, h3⟩
    have hin := h.inD j hj s hs
    have e : j = i := by
      rcases Nat.lt_trichotomy j i with hlt | heq | hgt
      · have := mul_apart hd hlt
        omega
      · exact heq
      · have := mul_apart hd hgt
        omega
    subst e
    exact ⟨s, hs, by omega, by omega⟩
  · rintro ⟨s, hs, h2, h3⟩
    exact ⟨i, hi, s, hs, by omega, by omega⟩

end Go.Proofs.Qxb6000744aMods.Lost
