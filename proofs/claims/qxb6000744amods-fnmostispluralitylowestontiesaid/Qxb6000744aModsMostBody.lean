/-
  THE WALK OF most (28).
-/
import Derived.Test.Qxb6000744aModsMostVotes
namespace Go.Proofs.Qxb6000744aMods.Most
open Go.RowKit

/-- The winners so far: places below j are won, the others are as they were laid. -/
def Voted (w : World) (B : Nat) (z : Nat → Nat → Nat) (len j : Nat) (W : Nat → Nat) : Prop := w.rowIs B 5 28 (fun i => .int .u8 (W i : Nat)) ∧ (∀ i, i < j → Win z i len (W i)) ∧ ∀ i, j ≤ i → W i = 0

theorem Voted.next {w : World} {B : Nat} {z : Nat → Nat → Nat} {len j bst : Nat} {W : Nat → Nat} (hrow : w.rowIs B 5 28 (fun i => .int .u8 ((if i = j then bst else W i : Nat) : Int))) (hb : Best z j len 256 bst)
    (hold : (∀ i, i < j → Win z i len (W i)) ∧ ∀ i, j ≤ i → W i = 0) : Voted w B z len (j + 1) (fun i => if i = j then bst else W i) := by
  refine ⟨hrow, fun i hi => ?_, fun i hi => ?_⟩
  · show Win z i len (if i = j then bst else W i)
    by_cases e : i = j
    · subst e; rw [if_pos rfl]; exact hb
    · rw [if_neg e]; exact hold.1 i (by omega)
  · show (if i = j then bst else W i) = 0
    rw [if_neg (show ¬ i = j by omega)]; exact hold.2 i (by omega)

set_option maxRecDepth 100000 in
set_option maxHeartbeats 2000000 in
theorem most_body (b off len cap : Nat) (A : Nat → Option Addr) (Ln Cp : Nat → Nat) (z : Nat → Nat → Nat) (w : World) (hl : len ≤ 4096) (hl1 : 1 ≤ len) (hL : Hid (∀ r, r < len → 28 ≤ Ln r)) (hz : Hid (∀ r c, z r c < 256))
    (k0 : Hid (∀ r, r < len → Piece w b off r A Ln Cp z)) :
    Calls Trym.prog 28 #[.slice (some ⟨b, off, none⟩) len cap] w fun e w' => ∃ B W, e = .returned (.slice (some ⟨B, 0, none⟩) 28 28) ∧ Voted w' B z len 28 W ∧ Below w.heap.size w w' := by
  have hl0 : ((len : Int) == 0) = false := by simp; omega
  have hmk : ∀ w : World, (Instr.makeSlice 25 (.int .i64 28) (.int .i64 28)).run Trym.prog w = .ok (.slice (some ⟨w.heap.size, 0, none⟩) 28 28) (w.alloc (.cells (madeCells #[.int .u8 0] 28) 5)) := run_make_row' (P := Trym.prog) 25 5 (.int .u8 0) 1 Trym.underlying25 info5 rfl .i64 .i64 28 (by omega) (by omega)
  go_enter Trym.func28, Trym.ntmps28
  go_wp2
  clear hmk
  go_loopw [16] (fun i wr => ∃ (j : Nat) (W : Nat → Nat), j ≤ 28 ∧ i = .int .i64 j ∧ Hid (Voted wr w.heap.size z len j W) ∧ Hid (Below w.heap.size w wr)) (fun i _ => 28 - (intOf i).toNat)
  case atStart => exact ⟨0, fun _ => 0, by omega, rfl, ⟨World.rowIs_made w (.int .u8 0) 28 5, fun i h => by omega, fun _ _ => rfl⟩, (Below.refl _ _).alloc (Nat.le_refl _) _⟩
  case round =>
    obtain ⟨j, W, hj, rfl, hvot, hbel⟩ := hrel
    by_cases hlt : j < 28
    · obtain ⟨wo, rfl⟩ : ∃ wo : World, wo = wr := ⟨_, rfl⟩
      go_upto_region 7 with fail
      refine wp_region_lit ?_
      refine wpList_alloc_agg _ rfl 27 rfl zero256 zero27 ?_
      go_wp2_with fail
      have hB : w.heap.size < wo.heap.size := World.rowIs.lt hvot.out.1
      -- the votes at place j
      go_loopw [21] (fun i wi => ∃ k : Nat, k ≤ len ∧ i = .int .i64 k ∧ Hid (Votes wi wo.heap.size z j k) ∧ Hid (Below wo.heap.size wo wi)) (fun i _ => len - (intOf i).toNat)
      case atStart => exact ⟨0, Nat.zero_le _, rfl, Votes.start wo z j, (Below.refl _ _).alloc (Nat.le_refl _) _⟩
      case round =>
        obtain ⟨k, hk, rfl, hv, hbel2⟩ := hrel
        by_cases hkl : k < len
        · obtain ⟨p0, p1⟩ := ((k0.out k hkl).below hbel.out).below hbel2.out
          have hLk := hL.out k hkl
          rcases p1 with p1 | ⟨x, o, hA, hc⟩
          · omega
          rw [hA] at p0
          have c1 := hc j (by omega)
          have hzk := hz.out k j
          have hcl := cnt_le z j (z k j) k
          have v1 : wr.cell? ⟨wo.heap.size, z k j, none⟩ = some (.int .i64 (cnt z j (z k j) k : Nat)) := World.rowIs.cell hv.out hzk
          have v2 : wr.frozen? ⟨wo.heap.size, z k j, none⟩ = false := World.rowIs.frozen hv.out _
          have hstep : Hid _ := Votes.step hv.out
          clear hA hc
          generalize hcn : cnt z j (z k j) k = cn at *
          generalize hzz : z k j = zz at *
          clear hcn hzz
          go_wp2_with fail
          go_roundw
          case rel => exact ⟨k + 1, by omega, by go_num, hstep.out, hbel2.out.setCell (Nat.le_refl _) _⟩
          case measure => simp [intOf]; omega
        · obtain rfl : k = len := by omega
          obtain ⟨cs, hcs, hsize, hval⟩ := hv.out
          have HV : Hid (∀ i, i < 256 → cs[i]? = some (.int .i64 (cnt z j i k : Nat))) := hval
          have HC : Hid (wr.heap[wo.heap.size]? = some (.cells cs 27 (0, 0))) := hcs
          have hvot2 : Hid (Voted wr w.heap.size z k j W) := ⟨World.rowIs.of_block hvot.out.1 (hbel2.out.block _ hB), hvot.out.2⟩
          have hbel3 : Hid (Below w.heap.size w wr) := hbel.out.trans (hbel2.out.mono (by omega))
          clear hval hvot hbel hbel2 hv
          go_upto_region 13 with fail
          refine wp_region_lit ?_
          refine wpList_load_row rfl 27 (.tmp 5) rfl wo.heap.size rfl 27 cs (0, 0) _ hcs Trym.underlying27 rfl (by rw [hsize]; exact size27) ?_
          clear hcs
          obtain ⟨wv, rfl⟩ : ∃ wv : World, wv = wr := ⟨_, rfl⟩
          go_wp2_with fail
          -- the winner at place j
          go_loopw [35] (fun i wi => ∃ v bst : Nat, v ≤ 256 ∧ i = .int .i64 v ∧ Hid (Best z j k v bst) ∧ Hid (wi.rowIs w.heap.size 5 28 (fun i => .int .u8 ((if i = j then bst else W i : Nat) : Int))) ∧ Hid (wi.heap[wo.heap.size]? = some (.cells cs 27 (0, 0))) ∧ Hid (Below w.heap.size w wi)) (fun i _ => 256 - (intOf i).toNat)
          case atStart =>
            refine ⟨0, 0, by omega, rfl, Best.start z j k, World.rowIs.congr hvot2.out.1 (fun i _ => ?_), HC, hbel3⟩
            by_cases e : i = j
            · subst e; rw [if_pos rfl, hvot2.out.2.2 i (Nat.le_refl _)]
            · rw [if_neg e]
          case round =>
            obtain ⟨v, bst, hv, rfl, hbest, hrow, hcs', hbel4⟩ := hrel
            have hb1 := hbest.out.lt
            by_cases hv2 : v < 256
            · have x1 : wr.cell? ⟨wo.heap.size, bst, none⟩ = some (.int .i64 (cnt z j bst k : Nat)) := by
                rw [cell_of_row wr _ _ cs 27 (0, 0) hcs'.out]; exact HV.out bst hb1
              have x2 : wr.cell? ⟨w.heap.size, j, none⟩ = some (.int .u8 (bst : Nat)) := by simpa using World.rowIs.cell hrow.out hlt
              have x3 : wr.frozen? ⟨w.heap.size, j, none⟩ = false := World.rowIs.frozen hrow.out j
              have x4 := run_index27 cs v _ hv2 (HV.out v hv2)
              have hne : Hid (wo.heap.size ≠ w.heap.size) := show wo.heap.size ≠ w.heap.size by omega
              have hcb := cnt_le z j bst k
              have hcv := cnt_le z j v k
              by_cases hc : (cnt z j bst k : Int) < (cnt z j v k : Int)
              · have hmore : Hid (Best z j k (v + 1) v) := hbest.out.more hv2 (by omega)
                generalize cnt z j bst k = c1 at *
                generalize cnt z j v k = c2 at *
                have hrow2 : Hid ((wr.setCell ⟨w.heap.size, j, none⟩ (.int .u8 (v : Nat))).rowIs w.heap.size 5 28 (fun i => .int .u8 ((if i = j then v else W i : Nat) : Int))) := (World.rowIs.set hrow.out j _).congr fun i _ => by
                  by_cases e : i = j <;> simp [e]
                go_wp2_with fail
                go_roundw
                case rel => exact ⟨v + 1, v, by omega, by go_num, hmore, hrow2, (Below.heap_setCell _ _ _ _ hne.out).trans hcs'.out, hbel4.out.setCell (Nat.le_refl _) _⟩
                case measure => simp [intOf]; omega
              · have hless : Hid (Best z j k (v + 1) bst) := hbest.out.less (by omega)
                generalize cnt z j bst k = c1 at *
                generalize cnt z j v k = c2 at *
                go_wp2_with fail
                go_roundw
                case rel => exact ⟨v + 1, bst, by omega, by go_num, hless, hrow, hcs', hbel4⟩
                case measure => simp [intOf]; omega
            · obtain rfl : v = 256 := by omega
              have hdone : Hid (Voted wr w.heap.size z k (j + 1) (fun i => if i = j then bst else W i)) := Voted.next hrow.out hbest.out hvot2.out.2
              go_wp2
              go_roundw
              case rel => exact ⟨j + 1, _, by omega, by go_num, hdone, hbel4⟩
              case measure => simp [intOf]; omega
    · go_wp2
      go_ret
      obtain rfl : j = 28 := by omega
      exact ⟨_, _, rfl, hvot.out, hbel.out⟩

set_option maxHeartbeats 1000000 in
theorem most_none (a : Option Addr) (cap : Nat) (w : World) : Calls Trym.prog 28 #[.slice a 0 cap] w fun e w' => e = .returned (.slice none 0 0) ∧ w' = w := by
  go_enter Trym.func28, Trym.ntmps28
  go_wp2
  go_ret
  exact ⟨rfl, rfl⟩

/-- What most hands back. -/
def GotM (w : World) (v : Value) (z : Nat → Nat → Nat) (len : Nat) : Prop :=
  (len = 0 ∧ v = .slice none 0 0) ∨ (1 ≤ len ∧ ∃ B W, v = .slice (some ⟨B, 0, none⟩) 28 28 ∧ Voted w B z len 28 W)

set_option maxHeartbeats 1000000 in
theorem zz_any (a : Option Addr) (len cap : Nat) (A : Nat → Option Addr) (Ln Cp : Nat → Nat) (z : Nat → Nat → Nat) (w : World) (hl : len ≤ 4096) (hL : ∀ r, r < len → 28 ≤ Ln r) (hz : ∀ r c, z r c < 256) (h : RdB w a len A Ln Cp z) :
    Calls Trym.prog 15 #[.slice a len cap] w fun e w' => ∃ v, e = .returned v ∧ GotM w' v z len ∧ Below w.heap.size w w' := by
  have HL : Hid (∀ r, r < len → 28 ≤ Ln r) := hL
  have HZ : Hid (∀ r c, z r c < 256) := hz
  clear hL hz
  by_cases h0 : len = 0
  · subst h0
    clear h
    go_enter Trym.func15, Trym.ntmps15
    go_wp2_with fail
    refine (most_none _ _ _).mono ?_
    rintro e w' ⟨rfl, hw⟩
    obtain rfl : w = w' := hw.symm
    clear hw
    go_wp2
    go_ret
    exact ⟨_, rfl, .inl ⟨rfl, rfl⟩, Below.refl _ _⟩
  · rcases h with h | ⟨b, off, rfl, k0⟩
    · exact absurd h h0
    have K0 : Hid (∀ r, r < len → Piece w b off r A Ln Cp z) := k0
    clear k0
    go_enter Trym.func15, Trym.ntmps15
    go_wp2_with fail
    refine (most_body b off len cap A Ln Cp z _ hl (by omega) HL HZ K0).mono ?_
    rintro e w' ⟨B, W, rfl, hv, hb⟩
    have hend : Hid (GotM w' (.slice (some ⟨B, 0, none⟩) 28 28) z len ∧ Below w.heap.size w w') := ⟨.inr ⟨by omega, B, W, rfl, hv⟩, hb⟩
    clear hv hb
    go_wp2
    go_ret
    exact ⟨_, rfl, hend.out⟩

end Go.Proofs.Qxb6000744aMods.Most
