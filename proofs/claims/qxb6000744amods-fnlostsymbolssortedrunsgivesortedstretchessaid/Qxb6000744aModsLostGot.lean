/-
  HOW THE LAWS READ WHAT ZZLostSymbols HANDS BACK; and plain laws on sums.
-/
import Derived.Test.Qxb6000744aModsLostZZ
namespace Go.Proofs.Qxb6000744aMods.Lost
open Go.RowKit

theorem getD_mem {l : List (Int × Int)} {k : Nat} (h : k < l.length) : l.getD k (0, 0) ∈ l := by
  rw [List.getD_eq_getElem?_getD, List.getElem?_eq_getElem h]
  exact List.getElem_mem h

theorem lsum_take_succ {l : List (Int × Int)} {k : Nat} (h : k < l.length) : lsum (l.take (k + 1)) = lsum (l.take k) + ((l.getD k (0, 0)).2 - (l.getD k (0, 0)).1) := by
  have e : l.getD k (0, 0) = l[k] := by rw [List.getD_eq_getElem?_getD, List.getElem?_eq_getElem h]; rfl
  rw [e, List.take_succ_eq_append_getElem h, lsum_append]
  simp only [lsum]
  omega

theorem lsum_take_le {d : Int} {l : List (Int × Int)} (h : InD d l) (k : Nat) : 0 ≤ lsum (l.take k) ∧ lsum (l.take k) ≤ lsum l := by
  have h1 := (h.take k).lsum_nonneg
  have h2 := (h.drop k).lsum_nonneg
  have h3 : lsum l = lsum (l.take k) + lsum (l.drop k) := by rw [← lsum_append, List.take_append_drop]
  omega

/-- The sum so far, within shard i: what it is, and its bounds. -/
theorem part_le {d : Int} {L : Lists} {N i : Nat} (h : ∀ j, j < N → InD d (L j)) (hi : i < N) (k : Nat) : 0 ≤ tot L i + lsum ((L i).take k) ∧ tot L i + lsum ((L i).take k) ≤ tot L N := by
  have h1 := tot_nonneg (L := L) (n := i) (fun j hj => h j (by omega))
  have h2 := lsum_take_le (h i hi) k
  have h3 := tot_le (L := L) (i := i + 1) (n := N) h (by omega)
  simp only [tot] at h3
  omega

/-- THE RESULT CAN BE READ: shard i's slice, and its stretches, two cells each. -/
def GotRd (w : World) (B N : Nat) (L : Lists) : Prop := ∀ i, i < N → ∃ a c, w.cell? ⟨B, i, none⟩ = some (.slice a (L i).length c) ∧ (L i).length ≤ c ∧
  ∀ k, k < (L i).length → ∃ g, a = some ⟨g, 0, none⟩ ∧ w.cell? ⟨g, k * 2, none⟩ = some (.int .i64 ((L i).getD k (0, 0)).1) ∧ w.cell? ⟨g, k * 2 + 1, none⟩ = some (.int .i64 ((L i).getD k (0, 0)).2)

theorem LostMem.got {w : World} {B n : Nat} {V : Nat → Value} {L : Lists} (h : LostMem w B n V L) : GotRd w B n L := fun i hi => by
  have h1 := h.row.cell hi
  have h2 := h.own i hi
  rcases h2.2 with ⟨hv, h3⟩ | ⟨g, cap, cur, hv, _, _, hnc, _⟩
  · rw [hv] at h1
    refine ⟨none, 0, by rw [h1, h3], by omega, fun k hk => by omega⟩
  · rw [hv] at h1 h2
    refine ⟨_, _, h1, hnc, fun k hk => ⟨g, rfl, ?_, ?_⟩⟩
    · rw [h2.cellAt (k * 2) (by omega)]; exact (flat_at (L i) hk).1
    · rw [h2.cellAt (k * 2 + 1) (by omega)]; exact (flat_at (L i) hk).2

theorem GotRd.below {w w' : World} {B N : Nat} {L : Lists} (h : GotRd w B N L) (hb : Below w.heap.size w w') : GotRd w' B N L := fun i hi => by
  obtain ⟨a, c, h1, h2, h3⟩ := h i hi
  refine ⟨a, c, (hb.cell (p := ⟨B, i, none⟩) (World.block_lt_of_cell? w _ h1)).trans h1, h2, fun k hk => ?_⟩
  obtain ⟨g, hg, c1, c2⟩ := h3 k hk
  exact ⟨g, hg, (hb.cell (p := ⟨g, k * 2, none⟩) (World.block_lt_of_cell? w _ c1)).trans c1, (hb.cell (p := ⟨g, k * 2 + 1, none⟩) (World.block_lt_of_cell? w _ c2)).trans c2⟩

end Go.Proofs.Qxb6000744aMods.Lost
