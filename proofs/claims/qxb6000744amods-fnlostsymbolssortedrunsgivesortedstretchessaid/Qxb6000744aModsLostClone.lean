/-
  THE WALK OF intClone (21): what is handed back reads as what came in, in new memory.
-/
import Derived.Test.Qxb6000744aModsLostWalks
import Derived.Deep.OwnRows
import Derived.Lib.SliceRun
namespace Go.Proofs.Qxb6000744aMods.Lost
open Go.RowKit

theorem Rd.below {w w' : World} {a : Option Addr} {len : Nat} {z : Nat → Int} (h : Rd w a len z) (hb : Below w.heap.size w w') : Rd w' a len z := by
  rcases h with h | ⟨b, off, rfl, hc⟩
  · exact .inl h
  · exact .inr ⟨b, off, rfl, fun i hi => (hb.cell (p := ⟨b, off + i, none⟩) (World.block_lt_of_cell? w _ (hc i hi))).trans (hc i hi)⟩

theorem info3 : (Trym.prog.info? 3).map (fun i => (i.zero, i.size, i.bytes)) = some (some (.int .i64 0), 1, 8) := by kernel_rfl

/-- A row of ints of the call's own, its first k cells filled. -/
def Filled (w : World) (B len k : Nat) (z : Nat → Int) : Prop := w.rowIs B 3 len (fun j => .int .i64 (if j < k then z j else 0))

theorem Filled.start (w : World) (len : Nat) (z : Nat → Int) : Filled (w.alloc (.cells (madeCells #[.int .i64 0] len) 3)) w.heap.size len 0 z :=
  (World.rowIs_made w (.int .i64 0) len 3).congr fun i _ => by simp

theorem Filled.step {w : World} {B len k : Nat} {z : Nat → Int} (h : Filled w B len k z) : Filled (w.setCell ⟨B, k, none⟩ (.int .i64 (z k))) B len (k + 1) z :=
  (World.rowIs.set h k _).congr fun i _ => by
    by_cases e : i = k
    · subst e; simp
    · by_cases e2 : i < k
      · simp [e, e2, Nat.lt_succ_of_lt e2]
      · simp [e, e2, show ¬ i < k + 1 by omega]

theorem Filled.rd {w : World} {B len : Nat} {z : Nat → Int} (h : Filled w B len len z) : Rd w (some ⟨B, 0, none⟩) len z :=
  .inr ⟨B, 0, rfl, fun i hi => by
    have := World.rowIs.cell h hi
    simp only [hi, if_true] at this
    simpa using this⟩

set_option maxHeartbeats 1000000 in
theorem clone_body (b off len cap : Nat) (z : Nat → Int) (w : World) (hl : len ≤ 4096)
    (k0 : Hid (∀ i, i < len → w.cell? ⟨b, off + i, none⟩ = some (.int .i64 (z i)))) :
    Calls Trym.prog 21 #[.slice (some ⟨b, off, none⟩) len cap] w fun e w' => ∃ a' c', e = .returned (.slice a' len c') ∧ Rd w' a' len z ∧ Below w.heap.size w w' := by
  have q29 : ∀ (w : World) (a : Option Addr) (n c n' c' : Nat), (binOp .eql 29 (.slice a n c) (.slice none n' c')).run Trym.prog w = .ok (.bool a.isNone) w := fun w a n c n' c' => Lib.run_eql_slice_nil w _ _ a n c n' c' Trym.underlying29
  have hmk := run_make_row' (P := Trym.prog) 29 3 (.int .i64 0) 8 Trym.underlying29 info3 rfl .i64 .i64 len (by omega) (by omega)
  go_enter Trym.func21, Trym.ntmps21
  go_wp2
  clear hmk q29
  go_loopw [4] (fun i wr => ∃ k : Nat, k ≤ len ∧ i = .int .i64 k ∧ Hid (Filled wr w.heap.size len k z) ∧ Hid (Below w.heap.size w wr)) (fun i _ => len - (intOf i).toNat)
  case atStart => exact ⟨0, Nat.zero_le _, rfl, Filled.start w len z, (Below.refl _ _).alloc (Nat.le_refl _) _⟩
  case round =>
    obtain ⟨k, hk, rfl, hfill, hbel⟩ := hrel
    by_cases hlt : k < len
    · have e0 : wr.cell? ⟨b, off + k, none⟩ = some (.int .i64 (z k)) := (hbel.out.cell (p := ⟨b, off + k, none⟩) (World.block_lt_of_cell? w _ (k0.out k hlt))).trans (k0.out k hlt)
      have e1 : wr.cell? ⟨w.heap.size, k, none⟩ = some (.int .i64 0) := by simpa using World.rowIs.cell hfill.out hlt
      have e2 : wr.frozen? ⟨w.heap.size, k, none⟩ = false := World.rowIs.frozen hfill.out k
      go_wp2
      go_roundw
      case rel => exact ⟨k + 1, by omega, by go_num, Filled.step hfill.out, hbel.out.setCell (Nat.le_refl _) _⟩
      case measure => simp [intOf]; omega
    · go_wp2
      go_ret
      obtain rfl : k = len := by omega
      exact ⟨_, _, rfl, Filled.rd hfill.out, hbel.out⟩

set_option maxHeartbeats 1000000 in
theorem clone_empty (a : Option Addr) (cap : Nat) (z : Nat → Int) (w : World) :
    Calls Trym.prog 21 #[.slice a 0 cap] w fun e w' => ∃ a' c', e = .returned (.slice a' 0 c') ∧ Rd w' a' 0 z ∧ Below w.heap.size w w' := by
  have q29 : ∀ (w : World) (a : Option Addr) (n c n' c' : Nat), (binOp .eql 29 (.slice a n c) (.slice none n' c')).run Trym.prog w = .ok (.bool a.isNone) w := fun w a n c n' c' => Lib.run_eql_slice_nil w _ _ a n c n' c' Trym.underlying29
  have hmk : ∀ w : World, (Instr.makeSlice 29 (.int .i64 0) (.int .i64 0)).run Trym.prog w = .ok (.slice (some ⟨w.heap.size, 0, none⟩) 0 0) (w.alloc (.cells (madeCells #[.int .i64 0] 0) 3)) := run_make_row' (P := Trym.prog) 29 3 (.int .i64 0) 8 Trym.underlying29 info3 rfl .i64 .i64 0 (by omega) (by omega)
  cases a with
  | none =>
    go_enter Trym.func21, Trym.ntmps21
    go_wp2
    go_ret
    exact ⟨_, _, rfl, .inl rfl, Below.refl _ _⟩
  | some x =>
    go_enter Trym.func21, Trym.ntmps21
    go_wp2
    refine wp_loop_rounds 1 ?_
    rw [rounds_succ]
    go_wp2
    go_ret
    exact ⟨_, _, rfl, .inl rfl, (Below.refl _ _).alloc (Nat.le_refl _) _⟩

theorem clone_any (a : Option Addr) (len cap : Nat) (z : Nat → Int) (w : World) (hl : len ≤ 4096) (h : Rd w a len z) :
    Calls Trym.prog 21 #[.slice a len cap] w fun e w' => ∃ a' c', e = .returned (.slice a' len c') ∧ Rd w' a' len z ∧ Below w.heap.size w w' := by
  rcases h with rfl | ⟨b, off, rfl, k0⟩
  · exact clone_empty a cap z w
  · exact clone_body b off len cap z w hl k0

end Go.Proofs.Qxb6000744aMods.Lost
