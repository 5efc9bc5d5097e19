/-
  THE WALK OF mostClone (14): what is handed back reads as what came in, in new memory.
-/
import Derived.Test.Qxb6000744aModsMostWalks
namespace Go.Proofs.Qxb6000744aMods.Most
open Go.RowKit

theorem info25 : (Trym.prog.info? 25).map (fun i => (i.zero, i.size, i.bytes)) = some (some (.slice none 0 0), 1, 24) := by kernel_rfl
theorem info5 : (Trym.prog.info? 5).map (fun i => (i.zero, i.size, i.bytes)) = some (some (.int .u8 0), 1, 1) := by kernel_rfl

/-- A row of bytes of the call's own, its first k cells filled. -/
def FilledU (w : World) (B len k : Nat) (z : Nat → Nat) : Prop := w.rowIs B 5 len (fun j => .int .u8 ((if j < k then z j else 0 : Nat) : Int))

theorem FilledU.start (w : World) (len : Nat) (z : Nat → Nat) : FilledU (w.alloc (.cells (madeCells #[.int .u8 0] len) 5)) w.heap.size len 0 z :=
  (World.rowIs_made w (.int .u8 0) len 5).congr fun i _ => by simp

theorem FilledU.step {w : World} {B len k : Nat} {z : Nat → Nat} (h : FilledU w B len k z) : FilledU (w.setCell ⟨B, k, none⟩ (.int .u8 (z k))) B len (k + 1) z :=
  (World.rowIs.set h k _).congr fun i _ => by
    by_cases e : i = k
    · subst e; simp
    · by_cases e2 : i < k
      · simp [e, e2, Nat.lt_succ_of_lt e2]
      · simp [e, e2, show ¬ i < k + 1 by omega]

theorem FilledU.cells {w : World} {B len : Nat} {z : Nat → Nat} (h : FilledU w B len len z) : ∀ i, i < len → w.cell? ⟨B, i, none⟩ = some (.int .u8 (z i)) := fun i hi => by
  have := World.rowIs.cell h hi
  simp only [hi, if_true] at this
  exact this

/-- The clone, its first k pieces laid. -/
def CloneMem (w : World) (O len k : Nat) (Ln : Nat → Nat) (z : Nat → Nat → Nat) : Prop := ∃ V : Nat → Value, w.rowIs O 25 len V ∧
  ∀ i, i < k → ∃ g, V i = .slice (some ⟨g, 0, none⟩) (Ln i) (Ln i) ∧ O < g ∧ g < w.heap.size ∧ ∀ c, c < Ln i → w.cell? ⟨g, c, none⟩ = some (.int .u8 (z i c))

theorem CloneMem.start (w : World) (len : Nat) (Ln : Nat → Nat) (z : Nat → Nat → Nat) : CloneMem (w.alloc (.cells (madeCells #[.slice none 0 0] len) 25)) w.heap.size len 0 Ln z :=
  ⟨_, World.rowIs_made w (.slice none 0 0) len 25, fun i h => by omega⟩

theorem CloneMem.below {w w' : World} {O len k : Nat} {Ln : Nat → Nat} {z : Nat → Nat → Nat} (h : CloneMem w O len k Ln z) (hb : Below w.heap.size w w') : CloneMem w' O len k Ln z := by
  obtain ⟨V, h1, h2⟩ := h
  refine ⟨V, h1.of_block (hb.block O h1.lt), fun i hi => ?_⟩
  obtain ⟨g, hv, hO, hg, hc⟩ := h2 i hi
  exact ⟨g, hv, hO, Nat.lt_of_lt_of_le hg hb.size, fun c hc' => (hb.cell (p := ⟨g, c, none⟩) hg).trans (hc c hc')⟩

theorem CloneMem.push {w : World} {O len k g : Nat} {Ln : Nat → Nat} {z : Nat → Nat → Nat} (h : CloneMem w O len k Ln z) (hg : O < g) (hs : g < w.heap.size) (hc : ∀ c, c < Ln k → w.cell? ⟨g, c, none⟩ = some (.int .u8 (z k c))) :
    CloneMem (w.setCell ⟨O, k, none⟩ (.slice (some ⟨g, 0, none⟩) (Ln k) (Ln k))) O len (k + 1) Ln z := by
  obtain ⟨V, h1, h2⟩ := h
  refine ⟨_, h1.set k _, fun i hi => ?_⟩
  have oth : ∀ g' c, O < g' → (w.setCell ⟨O, k, none⟩ (.slice (some ⟨g, 0, none⟩) (Ln k) (Ln k))).cell? ⟨g', c, none⟩ = w.cell? ⟨g', c, none⟩ := fun g' c h =>
    World.cell?_of_block (w := w) (a := ⟨g', c, none⟩) (Below.heap_setCell w _ _ _ (by simp; omega))
  have hsz : (w.setCell ⟨O, k, none⟩ (.slice (some ⟨g, 0, none⟩) (Ln k) (Ln k))).heap.size = w.heap.size := by simp [World.setCell]
  by_cases e : i = k
  · subst e
    exact ⟨g, by simp, hg, by rw [hsz]; exact hs, fun c h => (oth g c hg).trans (hc c h)⟩
  · obtain ⟨g', hv, hO, hg', hc'⟩ := h2 i (by omega)
    exact ⟨g', by simp [e, hv], hO, by rw [hsz]; exact hg', fun c h => (oth g' c hO).trans (hc' c h)⟩

def addrOf : Value → Option Addr
  | .slice a _ _ => a
  | _ => none

theorem CloneMem.rd {w : World} {O len : Nat} {Ln : Nat → Nat} {z : Nat → Nat → Nat} (h : CloneMem w O len len Ln z) : ∃ A, RdB w (some ⟨O, 0, none⟩) len A Ln Ln z := by
  obtain ⟨V, h1, h2⟩ := h
  refine ⟨fun i => addrOf (V i), .inr ⟨O, 0, rfl, fun r hr => ?_⟩⟩
  obtain ⟨g, hv, _, _, hc⟩ := h2 r hr
  refine ⟨?_, ?_⟩
  · have := h1.cell hr
    rw [hv] at this
    simp only [hv, addrOf, Nat.zero_add]
    exact this
  · simp only [hv, addrOf]
    exact .inr ⟨g, 0, rfl, fun i hi => by simpa using hc i hi⟩

set_option maxHeartbeats 2000000 in
theorem clone_body (b off len cap : Nat) (A : Nat → Option Addr) (Ln Cp : Nat → Nat) (z : Nat → Nat → Nat) (w : World) (hl : len ≤ 4096) (hL : Hid (∀ r, r < len → 28 ≤ Ln r ∧ Ln r ≤ 1048576))
    (k0 : Hid (∀ r, r < len → Piece w b off r A Ln Cp z)) :
    Calls Trym.prog 14 #[.slice (some ⟨b, off, none⟩) len cap] w fun e w' => ∃ a' A' c', e = .returned (.slice a' len c') ∧ RdB w' a' len A' Ln Ln z ∧ Below w.heap.size w w' := by
  have q22 : ∀ (w : World) (a : Option Addr) (n c n' c' : Nat), (binOp .eql 22 (.slice a n c) (.slice none n' c')).run Trym.prog w = .ok (.bool a.isNone) w := fun w a n c n' c' => Lib.run_eql_slice_nil w _ _ a n c n' c' Trym.underlying22
  have hmk := run_make_row' (P := Trym.prog) 22 25 (.slice none 0 0) 24 Trym.underlying22 info25 rfl .i64 .i64 len (by omega) (by omega)
  go_enter Trym.func14, Trym.ntmps14
  go_wp2
  clear hmk q22
  go_loopw [4] (fun i wr => ∃ k : Nat, k ≤ len ∧ i = .int .i64 k ∧ Hid (CloneMem wr w.heap.size len k Ln z) ∧ Hid (Below w.heap.size w wr)) (fun i _ => len - (intOf i).toNat)
  case atStart => exact ⟨0, Nat.zero_le _, rfl, CloneMem.start w len Ln z, (Below.refl _ _).alloc (Nat.le_refl _) _⟩
  case round =>
    obtain ⟨k, hk, rfl, hmem, hbel⟩ := hrel
    by_cases hlt : k < len
    · obtain ⟨wo, rfl⟩ : ∃ wo : World, wo = wr := ⟨_, rfl⟩
      have hLk := hL.out k hlt
      have q25 : ∀ (w : World) (a : Option Addr) (n c n' c' : Nat), (binOp .eql 25 (.slice a n c) (.slice none n' c')).run Trym.prog w = .ok (.bool a.isNone) w := fun w a n c n' c' => Lib.run_eql_slice_nil w _ _ a n c n' c' Trym.underlying25
      obtain ⟨p0, p1⟩ := (k0.out k hlt).below hbel.out
      obtain ⟨lk1, lk2⟩ := hLk
      have hmk := run_make_row' (P := Trym.prog) 25 5 (.int .u8 0) 1 Trym.underlying25 info5 rfl .i64 .i64 (Ln k) (by omega) (by omega)
      rcases p1 with p1 | ⟨x, o, hA, hc⟩
      · omega
      rw [hA] at p0
      have HC : Hid (∀ i, i < Ln k → wo.cell? ⟨x, o + i, none⟩ = some (.int .u8 (z k i))) := hc
      have hpush : Hid (∀ wi, Below wo.heap.size wo wi → wo.heap.size < wi.heap.size → FilledU wi wo.heap.size (Ln k) (Ln k) (z k) → CloneMem (wi.setCell ⟨w.heap.size, k, none⟩ (.slice (some ⟨wo.heap.size, 0, none⟩) (Ln k) (Ln k))) w.heap.size len (k + 1) Ln z) := fun wi hb hs hf => by
        obtain ⟨V, h1, _⟩ := hmem.out
        exact (hmem.out.below hb).push h1.lt hs hf.cells
      have hold : Hid (∃ v, wo.cell? ⟨w.heap.size, k, none⟩ = some v) := by
        obtain ⟨V, h1, _⟩ := hmem.out
        exact ⟨_, h1.cell hlt⟩
      have hfr : Hid (wo.frozen? ⟨w.heap.size, k, none⟩ = false) := by
        obtain ⟨V, h1, _⟩ := hmem.out
        exact h1.frozen k
      have hO : w.heap.size < wo.heap.size := by
        obtain ⟨V, h1, _⟩ := hmem.out
        exact h1.lt
      have P0 : Hid (wo.cell? ⟨b, off + k, none⟩ = some (.slice (some ⟨x, o, none⟩) (Ln k) (Cp k))) := p0
      clear hc hA hmem
      generalize Ln k = lk at *
      generalize Cp k = ck at *
      go_wp2_with fail
      clear hmk q25 p0
      go_loopw [6] (fun i wi => ∃ m : Nat, m ≤ lk ∧ i = .int .i64 m ∧ Hid (FilledU wi wo.heap.size lk m (z k)) ∧ Hid (Below wo.heap.size wo wi)) (fun i _ => lk - (intOf i).toNat)
      case atStart => exact ⟨0, Nat.zero_le _, rfl, FilledU.start wo lk (z k), (Below.refl _ _).alloc (Nat.le_refl _) _⟩
      case round =>
        obtain ⟨m, hm, rfl, hfill, hbel2⟩ := hrel
        have p0 : wr.cell? ⟨b, off + k, none⟩ = some (.slice (some ⟨x, o, none⟩) lk ck) := (hbel2.out.cell (p := ⟨b, off + k, none⟩) (World.block_lt_of_cell? wo _ P0.out)).trans P0.out
        by_cases hmL : m < lk
        · have e0 : wr.cell? ⟨x, o + m, none⟩ = some (.int .u8 (z k m)) := (hbel2.out.cell (p := ⟨x, o + m, none⟩) (World.block_lt_of_cell? wo _ (HC.out m hmL))).trans (HC.out m hmL)
          have e1 : wr.cell? ⟨wo.heap.size, m, none⟩ = some (.int .u8 0) := by simpa using World.rowIs.cell hfill.out hmL
          have e2 : wr.frozen? ⟨wo.heap.size, m, none⟩ = false := World.rowIs.frozen hfill.out m
          go_wp2_with fail
          go_roundw
          case rel => exact ⟨m + 1, by omega, by go_num, FilledU.step hfill.out, hbel2.out.setCell (Nat.le_refl _) _⟩
          case measure => simp [intOf]; omega
        · obtain rfl : m = lk := by omega
          obtain ⟨v, hv⟩ := hold.out
          have e1 : wr.cell? ⟨w.heap.size, k, none⟩ = some v := (hbel2.out.cell (p := ⟨w.heap.size, k, none⟩) hO).trans hv
          have e2 : wr.frozen? ⟨w.heap.size, k, none⟩ = false := (hbel2.out.frozen (p := ⟨w.heap.size, k, none⟩) hO).trans hfr.out
          have hlt2 : wo.heap.size < wr.heap.size := World.rowIs.lt hfill.out
          have hfin := hpush.out wr hbel2.out hlt2 hfill.out
          have hbel3 := (hbel.out.trans (hbel2.out.mono (by omega))).setCell (p := ⟨w.heap.size, k, none⟩) (Nat.le_refl _) (.slice (some ⟨wo.heap.size, 0, none⟩) m m)
          have HFIN : Hid _ := hfin
          have HB3 : Hid _ := hbel3
          clear hfin hbel3 hv
          go_wp2_with fail
          go_roundw
          case rel => exact ⟨k + 1, by omega, by go_num, HFIN.out, HB3.out⟩
          case measure => simp [intOf]; omega
    · go_wp2
      go_ret
      obtain rfl : k = len := by omega
      obtain ⟨A', hA'⟩ := hmem.out.rd
      exact ⟨_, A', _, rfl, hA', hbel.out⟩

set_option maxHeartbeats 1000000 in
theorem clone_empty (a : Option Addr) (cap : Nat) (Ln : Nat → Nat) (z : Nat → Nat → Nat) (w : World) :
    Calls Trym.prog 14 #[.slice a 0 cap] w fun e w' => ∃ a' A' c', e = .returned (.slice a' 0 c') ∧ RdB w' a' 0 A' Ln Ln z ∧ Below w.heap.size w w' := by
  have q22 : ∀ (w : World) (a : Option Addr) (n c n' c' : Nat), (binOp .eql 22 (.slice a n c) (.slice none n' c')).run Trym.prog w = .ok (.bool a.isNone) w := fun w a n c n' c' => Lib.run_eql_slice_nil w _ _ a n c n' c' Trym.underlying22
  have hmk : ∀ w : World, (Instr.makeSlice 22 (.int .i64 0) (.int .i64 0)).run Trym.prog w = .ok (.slice (some ⟨w.heap.size, 0, none⟩) 0 0) (w.alloc (.cells (madeCells #[.slice none 0 0] 0) 25)) := run_make_row' (P := Trym.prog) 22 25 (.slice none 0 0) 24 Trym.underlying22 info25 rfl .i64 .i64 0 (by omega) (by omega)
  cases a with
  | none =>
    go_enter Trym.func14, Trym.ntmps14
    go_wp2
    go_ret
    exact ⟨_, fun _ => none, _, rfl, .inl rfl, Below.refl _ _⟩
  | some x =>
    go_enter Trym.func14, Trym.ntmps14
    go_wp2
    refine wp_loop_rounds 1 ?_
    rw [rounds_succ]
    go_wp2
    go_ret
    exact ⟨_, fun _ => none, _, rfl, .inl rfl, (Below.refl _ _).alloc (Nat.le_refl _) _⟩

theorem clone_any (a : Option Addr) (len cap : Nat) (A : Nat → Option Addr) (Ln Cp : Nat → Nat) (z : Nat → Nat → Nat) (w : World) (hl : len ≤ 4096) (hL : ∀ r, r < len → 28 ≤ Ln r ∧ Ln r ≤ 1048576) (h : RdB w a len A Ln Cp z) :
    Calls Trym.prog 14 #[.slice a len cap] w fun e w' => ∃ a' A' c', e = .returned (.slice a' len c') ∧ RdB w' a' len A' Ln Ln z ∧ Below w.heap.size w w' := by
  rcases h with rfl | ⟨b, off, rfl, k0⟩
  · exact clone_empty a cap Ln z w
  · exact clone_body b off len cap A Ln Cp z w hl hL k0

end Go.Proofs.Qxb6000744aMods.Most
