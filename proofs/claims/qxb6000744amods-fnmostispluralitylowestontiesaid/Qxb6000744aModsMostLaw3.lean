/-
  THE LAW FnMostIsPluralityLowestOnTie (3).
-/
import Derived.Test.Qxb6000744aModsMostBody
namespace Go.Proofs.Qxb6000744aMods.Most
open Go.RowKit

set_option maxRecDepth 100000 in
set_option maxHeartbeats 4000000 in
theorem law3_in (a : Option Addr) (len cap : Nat) (A : Nat → Option Addr) (Ln Cp : Nat → Nat) (z : Nat → Nat → Nat) (w : World) (hl : (len : Int) ≤ 4096) (hM : Hid (∀ r, r < len → Ln r ≤ maxLen)) (hz : Hid (∀ r c, z r c < 256)) (h0 : Hid (RdB w a len A Ln Cp z)) :
    Calls Trym.prog 3 #[.slice a len cap] w fun e w' => e = .returned (.bool true) ∧ Below w.heap.size w w' := by
  have g1 : decide ((4096 : Int) < (len : Int)) = false := by simp; omega
  go_enter Trym.func3, Trym.ntmps3
  go_wp2_with fail
  refine (bytes_any a len cap A Ln Cp z _ hM.out h0.out).mono ?_
  rintro e w' ⟨hw, b, rfl⟩
  obtain rfl : w = w' := hw.symm
  clear hw
  cases b
  · go_wp2
    go_ret
    exact ⟨rfl, Below.refl _ _⟩
  go_wp2_with fail
  refine (fits_any a len cap A Ln Cp z _ (by omega) hM.out h0.out).mono ?_
  rintro e w' ⟨hw, b, rfl, hb⟩
  obtain rfl : w = w' := hw.symm
  clear hw
  cases b
  · go_wp2
    go_ret
    exact ⟨rfl, Below.refl _ _⟩
  have hF : Hid (∀ r, r < len → 28 ≤ Ln r ∧ Ln r ≤ 1048576) := (hb rfl).2
  clear hb
  go_wp2_with fail
  refine (clone_any a len cap A Ln Cp z _ (by omega) hF.out h0.out).mono ?_
  rintro e w1 ⟨a1, A1, c1, rfl, r1, B1⟩
  have R1 : Hid (RdB w1 a1 len A1 Ln Ln z) := r1
  have BB1 : Hid (Below w.heap.size w w1) := B1
  clear r1 B1 h0
  go_wp2_with fail
  refine (zz_any a1 len c1 A1 Ln Ln z _ (by omega) (fun r hr => (hF.out r hr).1) hz.out R1.out).mono ?_
  rintro e w2 ⟨v, rfl, gv, B2⟩
  have R2 : Hid (RdB w2 a1 len A1 Ln Ln z) := R1.out.below B2
  have BB2 : Hid (Below w.heap.size w w2) := BB1.out.trans (B2.mono BB1.out.size)
  have GV : Hid (GotM w2 v z len) := gv
  clear gv B2 BB1 R1
  rcases GV.out with ⟨hz0, rfl⟩ | ⟨hl1, B, W, rfl, hv⟩
  · subst hz0
    have q25 : ∀ (w : World) (a : Option Addr) (n c n' c' : Nat), (binOp .eql 25 (.slice a n c) (.slice none n' c')).run Trym.prog w = .ok (.bool a.isNone) w := fun w a n c n' c' => Lib.run_eql_slice_nil w _ _ a n c n' c' Trym.underlying25
    go_wp2
    go_ret
    exact ⟨rfl, BB2.out⟩
  rcases R2.out with hr0 | ⟨x0, o0, rfl, k0⟩
  · omega
  have K0 : Hid (∀ r, r < len → Piece w2 x0 o0 r A1 Ln Ln z) := k0
  have hV : Hid (Voted w2 B z len 28 W) := hv
  have hl0 : ((len : Int) == 0) = false := by simp; omega
  clear k0 hv GV R2
  go_wp2_with fail
  go_loopw [4] (fun i wr => ∃ j : Nat, j ≤ 28 ∧ i = .int .i64 j ∧ Hid (Below w2.heap.size w2 wr)) (fun i _ => 28 - (intOf i).toNat)
  case atStart => exact ⟨0, by omega, rfl, Below.refl _ _⟩
  case round =>
    obtain ⟨j, hj, rfl, hbel⟩ := hrel
    by_cases hlt : j < 28
    · obtain ⟨wo, rfl⟩ : ∃ wo : World, wo = wr := ⟨_, rfl⟩
      go_upto_region 16 with fail
      refine wp_region_lit ?_
      refine wpList_alloc_agg _ rfl 27 rfl zero256 zero27 ?_
      go_wp2_with fail
      go_loopw [6] (fun i wi => ∃ k : Nat, k ≤ len ∧ i = .int .i64 k ∧ Hid (Votes wi wo.heap.size z j k) ∧ Hid (Below wo.heap.size wo wi)) (fun i _ => len - (intOf i).toNat)
      case atStart => exact ⟨0, Nat.zero_le _, rfl, Votes.start wo z j, (Below.refl _ _).alloc (Nat.le_refl _) _⟩
      case round =>
        obtain ⟨k, hk, rfl, hvt, hbel2⟩ := hrel
        by_cases hkl : k < len
        · obtain ⟨p0, p1⟩ := ((K0.out k hkl).below hbel.out).below hbel2.out
          have hLk := (hF.out k hkl).1
          rcases p1 with p1 | ⟨x, o, hA, hc⟩
          · omega
          rw [hA] at p0
          have c1 := hc j (by omega)
          have hzk := hz.out k j
          have hcl := cnt_le z j (z k j) k
          have v1 : wr.cell? ⟨wo.heap.size, z k j, none⟩ = some (.int .i64 (cnt z j (z k j) k : Nat)) := World.rowIs.cell hvt.out hzk
          have v2 : wr.frozen? ⟨wo.heap.size, z k j, none⟩ = false := World.rowIs.frozen hvt.out _
          have hstep : Hid _ := Votes.step hvt.out
          clear hA hc
          generalize hcn : cnt z j (z k j) k = cn at *
          generalize hzz : z k j = zz at *
          clear hcn hzz
          go_wp2_with fail
          go_roundw
          case rel => exact ⟨k + 1, by omega, by go_num, hstep.out, hbel2.out.setCell (Nat.le_refl _) _⟩
          case measure => simp [intOf]; omega
        · obtain rfl : k = len := by omega
          have hw2 := hV.out.1
          have hwin := hV.out.2.1 j hlt
          have x1 : wr.cell? ⟨B, j, none⟩ = some (.int .u8 (W j : Nat)) := ((World.rowIs.of_block (World.rowIs.of_block hw2 (hbel.out.block _ hw2.lt)) (hbel2.out.block _ (Nat.lt_of_lt_of_le hw2.lt hbel.out.size))).cell hlt)
          have hW := hwin.lt
          have hcw := cnt_le z j (W j) k
          have hpos := hwin.votes (by omega) (hz.out 0 j)
          have x2 : wr.cell? ⟨wo.heap.size, W j, none⟩ = some (.int .i64 (cnt z j (W j) k : Nat)) := World.rowIs.cell hvt.out hW
          have x3 : ((cnt z j (W j) k : Int) == 0) = false := by simp; omega
          have HW : Hid (∀ u, u < 256 → cnt z j u k ≤ cnt z j (W j) k ∧ (cnt z j u k = cnt z j (W j) k → W j ≤ u)) := fun u hu => ⟨hwin.most u hu, hwin.low u hu⟩
          have hbel3 : Hid (Below w2.heap.size w2 wr) := hbel.out.trans (hbel2.out.mono hbel.out.size)
          clear hwin hw2
          generalize cnt z j (W j) k = cw at *
          generalize W j = wj at *
          go_wp2_with fail
          clear x1 x3
          go_loop [9] (fun i => ∃ v : Nat, v ≤ 256 ∧ i = .int .i64 v) (fun i => 256 - (intOf i).toNat)
          case atStart => exact ⟨0, by omega, rfl⟩
          case round =>
            obtain ⟨v, hv, rfl⟩ := hrel
            by_cases hv2 : v < 256
            · have y1 : wr.cell? ⟨wo.heap.size, v, none⟩ = some (.int .i64 (cnt z j v k : Nat)) := World.rowIs.cell hvt.out hv2
              obtain ⟨hm1, hm2⟩ := HW.out v hv2
              generalize cnt z j v k = cv at *
              by_cases e : cv = cw
              · have hm3 := hm2 e
                subst e
                clear hm2
                go_wp2_with fail
                go_round
                case rel => exact ⟨v + 1, by omega, by go_num⟩
                case measure => simp [intOf]; omega
              · have e2 : ((cv : Int) == (cw : Int)) = false := by simp; omega
                clear hm2
                go_wp2_with fail
                go_round
                case rel => exact ⟨v + 1, by omega, by go_num⟩
                case measure => simp [intOf]; omega
            · go_wp2
              go_roundw
              case rel => exact ⟨j + 1, by omega, by go_num, hbel3⟩
              case measure => simp [intOf]; omega
    · go_wp2
      go_ret
      exact ⟨rfl, BB2.out.trans (hbel.out.mono BB2.out.size)⟩

set_option maxHeartbeats 1000000 in
theorem law3_out (a : Option Addr) (len cap : Nat) (A : Nat → Option Addr) (Ln Cp : Nat → Nat) (z : Nat → Nat → Nat) (w : World) (hl : (4096 : Int) < (len : Int)) (hM : Hid (∀ r, r < len → Ln r ≤ maxLen)) (h0 : Hid (RdB w a len A Ln Cp z)) :
    Calls Trym.prog 3 #[.slice a len cap] w fun e w' => e = .returned (.bool true) ∧ Below w.heap.size w w' := by
  go_enter Trym.func3, Trym.ntmps3
  go_wp2_with fail
  refine (bytes_any a len cap A Ln Cp z _ hM.out h0.out).mono ?_
  rintro e w' ⟨hw, b, rfl⟩
  obtain rfl : w = w' := hw.symm
  clear hw
  cases b
  · go_wp2
    go_ret
    exact ⟨rfl, Below.refl _ _⟩
  · go_wp2
    go_ret
    exact ⟨rfl, Below.refl _ _⟩

theorem law3_any (a : Option Addr) (len cap : Nat) (A : Nat → Option Addr) (Ln Cp : Nat → Nat) (z : Nat → Nat → Nat) (w : World) (hM : ∀ r, r < len → Ln r ≤ maxLen) (hz : ∀ r c, z r c < 256) (h0 : RdB w a len A Ln Cp z) :
    Calls Trym.prog 3 #[.slice a len cap] w fun e w' => e = .returned (.bool true) ∧ Below w.heap.size w w' := by
  by_cases h : (4096 : Int) < (len : Int)
  · exact law3_out a len cap A Ln Cp z w h hM h0
  · exact law3_in a len cap A Ln Cp z w (by omega) hM hz h0

end Go.Proofs.Qxb6000744aMods.Most
