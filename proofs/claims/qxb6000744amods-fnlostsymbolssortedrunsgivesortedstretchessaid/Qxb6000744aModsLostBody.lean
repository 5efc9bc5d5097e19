/-
  THE WALK OF lostSymbols (29).
-/
import Derived.Test.Qxb6000744aModsLostMem
namespace Go.Proofs.Qxb6000744aMods.Lost
open Go.RowKit

theorem info35 : (Trym.prog.info? 35).map (fun i => (i.zero, i.size, i.bytes)) = some (some (.slice none 0 0), 1, 24) := by kernel_rfl
theorem info37 : (Trym.prog.info? 37).map (fun i => (i.zero, i.size, i.bytes)) = some (some (.agg #[.int .i64 0, .int .i64 0]), 2, 16) := by kernel_rfl

/-- A row of runs that can be read: two cells a run. -/
def Rd2 (w : World) (b len : Nat) (f t : Nat → Int) : Prop := ∀ i, i < len → w.cell? ⟨b, i * 2, none⟩ = some (.int .i64 (f i)) ∧ w.cell? ⟨b, i * 2 + 1, none⟩ = some (.int .i64 (t i))

theorem Rd2.below {w w' : World} {b len : Nat} {f t : Nat → Int} (h : Rd2 w b len f t) (hb : Below w.heap.size w w') : Rd2 w' b len f t := fun i hi =>
  ⟨(hb.cell (p := ⟨b, i * 2, none⟩) (World.block_lt_of_cell? w _ (h i hi).1)).trans (h i hi).1, (hb.cell (p := ⟨b, i * 2 + 1, none⟩) (World.block_lt_of_cell? w _ (h i hi).2)).trans (h i hi).2⟩

/-- The shard in which byte x lies, and its bounds. -/
theorem shard_of {x d T : Int} {N : Nat} (hd : 1 ≤ d) (h0 : 0 ≤ x) (hx : x < T) (hT : T ≤ N * d) : ∃ i : Nat, x / d = i ∧ i < N ∧ 0 ≤ (i : Int) * d ∧ (i : Int) * d ≤ x ∧ x < ((i : Int) + 1) * d ∧ ((i : Int) + 1) * d = (i : Int) * d + d := by
  have h1 := Int.mul_ediv_add_emod x d
  have h2 := Int.emod_nonneg x (show d ≠ 0 by omega)
  have h3 := Int.emod_lt_of_pos x (show 0 < d by omega)
  have h4 : 0 ≤ x / d := Int.ediv_nonneg h0 (by omega)
  obtain ⟨i, hi⟩ := Int.eq_ofNat_of_zero_le h4
  have e1 : d * (x / d) = (i : Int) * d := by rw [hi, Int.mul_comm]
  have e2 : ((i : Int) + 1) * d = (i : Int) * d + d := by rw [Int.add_mul, Int.one_mul]
  refine ⟨i, hi, ?_, Int.mul_nonneg (by omega) (by omega), by omega, by omega, e2⟩
  rcases Nat.lt_or_ge i N with h | h
  · exact h
  · exfalso
    have := Int.mul_le_mul_of_nonneg_right (show (N : Int) ≤ (i : Int) by omega) (show 0 ≤ d by omega)
    omega

set_option maxHeartbeats 2000000 in
theorem lost_body (b len cap N : Nat) (d : Int) (f t : Nat → Int) (w : World) (hl : 1 ≤ len) (hF : Hid (FitsL f t len N d)) (hr : Hid (Rd2 w b len f t)) :
    Calls Trym.prog 29 #[.slice (some ⟨b, 0, none⟩) len cap, .int .i64 N, .int .i64 d] w fun e w' => ∃ B V L, e = .returned (.slice (some ⟨B, 0, none⟩) N N) ∧ LostMem w' B N V L ∧ OInv f t len N d len L ∧ Below w.heap.size w w' := by
  have hN : (N : Int) ≤ 65536 := hF.out.n2
  have hmk := run_make_row' (P := Trym.prog) 32 35 (.slice none 0 0) 24 Trym.underlying32 info35 rfl .i64 .i64 N (by omega) (by omega)
  have hlen := hF.out.small
  have hd1 := hF.out.d1
  have hd2 := hF.out.d2
  have hl0 : ((len : Int) == 0) = false := by simp; omega
  obtain ⟨i0, hi0, hz0, hz1, hz2⟩ := info_parts info37
  go_enter Trym.func29, Trym.ntmps29
  go_wp2
  clear hmk
  go_loopw [20] (fun i wr => ∃ (k : Nat) (V : Nat → Value) (L : Lists), k ≤ len ∧ i = .int .i64 k ∧ Hid (LostMem wr w.heap.size N V L) ∧ Hid (OInv f t len N d k L) ∧ Hid (Below w.heap.size w wr)) (fun i _ => len - (intOf i).toNat)
  case atStart => exact ⟨0, _, _, Nat.zero_le _, rfl, LostMem.start w N, OInv.start f t len N d, (Below.refl _ _).alloc (Nat.le_refl _) _⟩
  case round =>
    obtain ⟨k, V, L, hk, rfl, hmem, hinv, hbel⟩ := hrel
    by_cases hlt : k < len
    · obtain ⟨wo, rfl⟩ : ∃ wo : World, wo = wr := ⟨_, rfl⟩
      have hc := hr.out k hlt
      have e0 : wo.cell? ⟨b, k * 2, none⟩ = some (.int .i64 (f k)) := (hbel.out.cell (p := ⟨b, k * 2, none⟩) (World.block_lt_of_cell? w _ hc.1)).trans hc.1
      have e1 : wo.cell? ⟨b, k * 2 + 1, none⟩ = some (.int .i64 (t k)) := (hbel.out.cell (p := ⟨b, k * 2 + 1, none⟩) (World.block_lt_of_cell? w _ hc.2)).trans hc.2
      have hrun := hF.out.run k hlt
      have hnd := hF.out.nd
      have hf0 : 0 ≤ f k := hrun.1
      have htk : t k ≤ 1048576 := by omega
      have hsum : Hid (sumTo f t (k + 1) ≤ 1048576) := Int.le_trans (sumTo_le f t (show k + 1 ≤ len by omega)) hF.out.sum
      have HT : Hid (t k ≤ N * d) := hrun.2
      clear hc hrun hnd
      go_wp2_with fail
      clear e0 e1
      go_loopw [10] (fun x wi => ∃ (y : Int) (V : Nat → Value) (L : Lists), x = .int .i64 y ∧ Hid (LostMem wi w.heap.size N V L) ∧ Hid (IInv f t len N d k y L) ∧ Hid (Below w.heap.size w wi) ∧ Hid (wi.heap[wo.heap.size]? = some (.cells #[.int .i64 (f k), .int .i64 (t k)] 46 (0, 0)))) (fun x _ => (t k - intOf x).toNat)
      case atStart => exact ⟨f k, V, L, rfl, hmem.out.alloc _, hinv.out.enter hlt, hbel.out.alloc hbel.out.size _, heap_alloc_new _ _⟩
      case round =>
        obtain ⟨y, V', L', rfl, hmem', hinv', hbel', hU⟩ := hrel
        have u1 := (two_cells hU.out).2
        have y0 : 0 ≤ y := by have := hinv'.out.lo; omega
        by_cases hx : y < t k
        · obtain ⟨i, hq, hiN, p0, p1, p2, p3⟩ := shard_of hd1 y0 hx HT.out
          obtain ⟨e, he⟩ : ∃ e, (if ((i : Int) + 1) * d < t k then ((i : Int) + 1) * d else t k) = e := ⟨_, rfl⟩
          have q1 : y < e := by rw [← he]; split <;> omega
          have q2 : e ≤ t k := by rw [← he]; split <;> omega
          have q3 : e ≤ (i : Int) * d + d := by rw [← he]; split <;> omega
          have p4 : ((i : Int) + 1) * d ≤ 2000000 := by omega
          have hLen : (L' i).length ≤ 1048576 := by
            have h1 := hinv'.out.length_le hiN
            have h2 := hsum.out
            have h3 := hinv'.out.lo
            rw [sumTo_pos (show f k < t k by omega)] at h2
            omega
          have Q3 : Hid (e ≤ (i : Int) * d + d) := q3
          have hsz : w.heap.size < wr.heap.size := hmem'.out.row.lt
          have c1 : wr.cell? ⟨w.heap.size, i, none⟩ = some (V' i) := hmem'.out.row.cell hiN
          have hown : Hid _ := hmem'.out.own i hiN
          clear p3
          go_wp2_with (at_builtin; refine wpList_append_at _ rfl (.tmp 45) (.tmp 57) 35 rfl (w.heap.size + 1) 37 i0 (.agg #[.int .i64 0, .int .i64 0]) 2 16 Trym.underlying35 hi0 hz0 hz1 hz2 rfl (by decide) _ _ _ rfl (World.ownsRow.alloc hown.out _) ⟨wr.heap.size, 0, none⟩ 1 1 [.int .i64 (y - (i : Int) * d), .int .i64 (e - (i : Int) * d)] rfl rfl (two_new _ _ _ _) (two_one _ _) (by unfold maxLen; omega) (by omega) (by simp; omega) (by decide) ?_; intro g gc w1 hown' hgrow hgb; obtain ⟨s1, s2⟩ := LostMem.at (hmem'.out.alloc _) hiN hgrow)
          have hB := hmem.out.row.lt
          have hUlt := (Array.getElem?_eq_some_iff.1 hU.out).1
          have hU1 := (hmem'.out.alloc _).other hiN hgrow ((Below.heap_alloc wr _ _ hUlt).trans hU.out)
          have hU2 : (w1.setCell ⟨w.heap.size, i, none⟩ (.slice (some ⟨g, 0, none⟩) ((L' i).length + 1) gc)).heap[wo.heap.size]? = some (.cells #[.int .i64 (f k), .int .i64 (t k)] 46 (0, 0)) := (Below.heap_setCell w1 _ _ _ (by simp; omega)).trans hU1
          have hbel2 := ((hmem'.out.alloc _).below hiN hgrow (hbel'.out.alloc (by omega) _)).setCell (p := ⟨w.heap.size, i, none⟩) (Nat.le_refl _) (.slice (some ⟨g, 0, none⟩) ((L' i).length + 1) gc)
          go_roundw
          case rel => exact ⟨e, _, _, rfl, (hmem'.out.alloc _).push hiN (s := (y - (i : Int) * d, e - (i : Int) * d)) hown' hgrow hgb, hinv'.out.step hiN hd1 p1 q1 q2 Q3.out, hbel2, hU2⟩
          case measure => simp [intOf]; omega
        · go_wp2
          go_roundw
          case rel => exact ⟨k + 1, V', L', by omega, by go_num, hmem', hinv'.out.leave hlt hx, hbel'⟩
          case measure => simp [intOf]; omega
    · go_wp2
      go_ret
      obtain rfl : k = len := by omega
      exact ⟨_, _, _, rfl, hmem.out, hinv.out, hbel.out⟩
end Go.Proofs.Qxb6000744aMods.Lost
