/-
  THE WALK OF ZZLostSymbols (22): it makes the runs and calls lostSymbols.
-/
import Derived.Test.Qxb6000744aModsLostBody
import Derived.StillTailTactics
namespace Go.Proofs.Qxb6000744aMods.Lost
open Go.RowKit

/-- 'wp_region_still_tail', the draw under its own name. -/
theorem still_tail {P : Program} {id : Nat} {Q : Exit → Act → World → Prop} {a : Act} {w : World} {l : List Oper} (n : Nat) (hm : P.follows .mixedOrders = true) (hB : Region.lexTailB .any l.toArray n = true)
    (h : wpStill P l.toArray w.drew (fun a' => wpList P l.toArray Q (l.drop n) a' w.drew) (l.take n) a) : (Code.region id l.toArray true).wp P Q a w :=
  wp_region_still_tail n hm hB h

theorem info46 : (Trym.prog.info? 46).map (fun i => (i.zero, i.size, i.bytes)) = some (some (.agg #[.int .i64 0, .int .i64 0]), 2, 16) := by kernel_rfl

/-- make([]run, m). -/
theorem make_runs (m : Nat) (hm : m ≤ 4096) (w : World) : (Instr.makeSlice 44 (.int .i64 (m : Int)) (.int .i64 (m : Int))).run Trym.prog w = .ok (.slice (some ⟨w.heap.size, 0, none⟩) m m) (w.alloc (.cells (madeCells #[.int .i64 0, .int .i64 0] (m * 2)) 46)) := by
  obtain ⟨i0, hi0, hz0, hz1, hz2⟩ := info_parts info46
  have hr := run_make (P := Trym.prog) w 44 46 i0 _ Trym.underlying44 hi0 hz0 .i64 .i64 m m (by omega) (Int.le_refl _) (by rw [hz2]; omega) (by omega)
  rw [hz1] at hr
  simp only [Int.toNat_natCast] at hr
  exact hr

/-- The runs' cells, the first k runs laid. -/
def runCell (f t : Nat → Int) (k j : Nat) : Value := .int .i64 (if j / 2 < k then (if j % 2 = 0 then f (j / 2) else t (j / 2)) else 0)

def Filled2 (w : World) (B m k : Nat) (f t : Nat → Int) : Prop := w.rowIs B 46 (m * 2) (runCell f t k)

theorem Filled2.start (w : World) (m : Nat) (f t : Nat → Int) : Filled2 (w.alloc (.cells (madeCells #[.int .i64 0, .int .i64 0] (m * 2)) 46)) w.heap.size m 0 f t := by
  refine ⟨_, Go.Deep.blk_alloc_new _ _, size_madeCells _ _, fun i hi => ?_⟩
  have h2 : i % 2 = 0 ∨ i % 2 = 1 := by omega
  rcases h2 with h2 | h2 <;> simp [madeCells, hi, h2, runCell]

theorem Filled2.step {w : World} {B m k : Nat} {f t : Nat → Int} (h : Filled2 w B m k f t) : Filled2 ((w.setCell ⟨B, k * 2, none⟩ (.int .i64 (f k))).setCell ⟨B, k * 2 + 1, none⟩ (.int .i64 (t k))) B m (k + 1) f t := by
  refine ((World.rowIs.set h (k * 2) _).set (k * 2 + 1) _).congr fun i _ => ?_
  by_cases e1 : i = k * 2 + 1
  · subst e1
    have a1 : (k * 2 + 1) / 2 = k := by omega
    have a2 : (k * 2 + 1) % 2 = 1 := by omega
    simp [runCell, a1, a2]
  · by_cases e2 : i = k * 2
    · subst e2
      have a1 : (k * 2) / 2 = k := by omega
      have a2 : (k * 2) % 2 = 0 := by omega
      simp [runCell, a1, a2]
    · have a3 : i / 2 < k + 1 ↔ i / 2 < k := by omega
      simp [runCell, e1, e2, a3]

theorem Filled2.rd {w : World} {B m : Nat} {f t : Nat → Int} (h : Filled2 w B m m f t) : Rd2 w B m f t := fun i hi => by
  have h1 := World.rowIs.cell h (show i * 2 < m * 2 by omega)
  have h2 := World.rowIs.cell h (show i * 2 + 1 < m * 2 by omega)
  have a1 : (i * 2) / 2 = i := by omega
  have a2 : (i * 2) % 2 = 0 := by omega
  have a3 : (i * 2 + 1) / 2 = i := by omega
  have a4 : (i * 2 + 1) % 2 = 1 := by omega
  simp only [runCell, a1, a2, hi, if_true] at h1
  simp only [runCell, a3, a4, hi, if_true] at h2
  exact ⟨h1, by simpa using h2⟩

/-- What ZZLostSymbols hands back. -/
def GotL (w : World) (v : Value) (f t : Nat → Int) (len N : Nat) (d : Int) : Prop :=
  (len = 0 ∧ v = .slice none 0 0) ∨ (1 ≤ len ∧ ∃ B V L, v = .slice (some ⟨B, 0, none⟩) N N ∧ LostMem w B N V L ∧ OInv f t len N d len L)

set_option maxHeartbeats 1000000 in
theorem lost_none (N d : Int) (w : World) : Calls Trym.prog 29 #[.slice none 0 0, .int .i64 N, .int .i64 d] w fun e w' => e = .returned (.slice none 0 0) ∧ w' = w := by
  go_enter Trym.func29, Trym.ntmps29
  go_wp2
  go_ret
  exact ⟨rfl, rfl⟩

set_option maxHeartbeats 1000000 in
theorem zz_none (a0 a1 : Option Addr) (c0 c1 : Nat) (N : Nat) (d : Int) (f t : Nat → Int) (w : World) :
    Calls Trym.prog 22 #[.slice a0 0 c0, .slice a1 0 c1, .int .i64 N, .int .i64 d] w fun e w' => ∃ v, e = .returned v ∧ GotL w' v f t 0 N d ∧ Below w.heap.size w w' := by
  go_enter Trym.func22, Trym.ntmps22
  go_wp2
  refine wp_loop_rounds 1 ?_
  rw [rounds_succ]
  go_wp2_with fail
  refine (lost_none _ _ _).mono ?_
  rintro e w' ⟨rfl, rfl⟩
  go_wp2
  go_ret
  exact ⟨_, rfl, .inl ⟨rfl, rfl⟩, Below.refl _ _⟩

set_option maxHeartbeats 1000000 in
theorem zz_body (b0 o0 b1 o1 : Nat) (len c0 c1 N : Nat) (d : Int) (f t : Nat → Int) (w : World) (hl : 1 ≤ len) (hF : Hid (FitsL f t len N d))
    (k0 : Hid (∀ i, i < len → w.cell? ⟨b0, o0 + i, none⟩ = some (.int .i64 (f i)))) (k1 : Hid (∀ i, i < len → w.cell? ⟨b1, o1 + i, none⟩ = some (.int .i64 (t i)))) :
    Calls Trym.prog 22 #[.slice (some ⟨b0, o0, none⟩) len c0, .slice (some ⟨b1, o1, none⟩) len c1, .int .i64 N, .int .i64 d] w fun e w' => ∃ v, e = .returned v ∧ GotL w' v f t len N d ∧ Below w.heap.size w w' := by
  have hlen := hF.out.small
  have hmk := make_runs len hlen
  have hb0 : decide (0 < len) = true := by simp; omega
  go_enter Trym.func22, Trym.ntmps22
  go_wp2
  clear hmk
  go_loopw [11] (fun i wr => ∃ k : Nat, k ≤ len ∧ i = .int .i64 k ∧ Hid (Filled2 wr w.heap.size len k f t) ∧ Hid (Below w.heap.size w wr)) (fun i _ => len - (intOf i).toNat)
  case atStart => exact ⟨0, Nat.zero_le _, rfl, Filled2.start w len f t, (Below.refl _ _).alloc (Nat.le_refl _) _⟩
  case round =>
    obtain ⟨k, hk, rfl, hfill, hbel⟩ := hrel
    by_cases hlt : k < len
    · have e0 : wr.cell? ⟨b0, o0 + k, none⟩ = some (.int .i64 (f k)) := (hbel.out.cell (p := ⟨b0, o0 + k, none⟩) (World.block_lt_of_cell? w _ (k0.out k hlt))).trans (k0.out k hlt)
      have e1 : wr.cell? ⟨b1, o1 + k, none⟩ = some (.int .i64 (t k)) := (hbel.out.cell (p := ⟨b1, o1 + k, none⟩) (World.block_lt_of_cell? w _ (k1.out k hlt))).trans (k1.out k hlt)
      have e2 : wr.cell? ⟨w.heap.size, k * 2, none⟩ = some (runCell f t k (k * 2)) := World.rowIs.cell hfill.out (by omega)
      have e3 : wr.cell? ⟨w.heap.size, k * 2 + 1, none⟩ = some (runCell f t k (k * 2 + 1)) := World.rowIs.cell hfill.out (by omega)
      have e4 : ∀ j, wr.frozen? ⟨w.heap.size, j, none⟩ = false := fun j => World.rowIs.frozen hfill.out j
      go_wp2_with fail
      refine still_tail 11 (by kernel_rfl) (by kernel_rfl) ?_
      simp only [List.take_succ_cons, List.take_zero, List.drop_succ_cons, List.drop_zero]
      repeat still_step
      refine wpStill_nil ?_
      go_wp2
      have h1 := Filled2.step hfill.out
      have h2 := ((hbel.out.setCell (p := ⟨w.heap.size, k * 2, none⟩) (Nat.le_refl _) (.int .i64 (f k))).setCell (p := ⟨w.heap.size, k * 2 + 1, none⟩) (Nat.le_refl _) (.int .i64 (t k))).drew
      go_roundw
      case rel => first | exact ⟨k + 1, by omega, by go_num, h1, h2⟩ | ((repeat apply Exists.intro); refine ⟨⟨k + 1, by omega, ?_, h1, h2⟩, rfl⟩; go_num)
      case measure => simp [intOf]; omega
    · obtain rfl : k = len := by omega
      have hrd := Filled2.rd hfill.out
      go_wp2_with fail
      refine (lost_body _ _ _ _ _ f t _ hl hF hrd).mono ?_
      rintro e w' ⟨B, V, L, rfl, hm, ho, hb⟩
      have hend : GotL w' (.slice (some ⟨B, 0, none⟩) N N) f t k N d ∧ Below w.heap.size w w' := ⟨.inr ⟨hl, B, V, L, rfl, hm, ho⟩, hbel.out.trans (hb.mono hbel.out.size)⟩
      have HE : Hid _ := hend
      clear hm ho hb hend
      go_wp2
      go_ret
      exact ⟨_, rfl, HE.out⟩

theorem zz_any (a0 a1 : Option Addr) (len c0 c1 N : Nat) (d : Int) (f t : Nat → Int) (w : World) (hF : FitsL f t len N d) (h0 : Rd w a0 len f) (h1 : Rd w a1 len t) :
    Calls Trym.prog 22 #[.slice a0 len c0, .slice a1 len c1, .int .i64 N, .int .i64 d] w fun e w' => ∃ v, e = .returned v ∧ GotL w' v f t len N d ∧ Below w.heap.size w w' := by
  rcases h0 with rfl | ⟨b0, o0, rfl, k0⟩
  · exact zz_none _ _ _ _ _ _ _ _ _
  · rcases h1 with rfl | ⟨b1, o1, rfl, k1⟩
    · exact zz_none _ _ _ _ _ _ _ _ _
    · by_cases hl : len = 0
      · subst hl; exact zz_none _ _ _ _ _ _ _ _ _
      · exact zz_body b0 o0 b1 o1 len c0 c1 N d f t w (by omega) hF k0 k1

end Go.Proofs.Qxb6000744aMods.Lost
