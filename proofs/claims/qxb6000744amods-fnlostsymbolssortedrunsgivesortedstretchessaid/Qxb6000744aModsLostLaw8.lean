/-
  THE LAW FnLostSymbolsSortedRunsGiveSortedStretches (8).
-/
import Derived.Test.Qxb6000744aModsLostGot
namespace Go.Proofs.Qxb6000744aMods.Lost
open Go.RowKit

set_option maxHeartbeats 4000000 in
theorem law8_in (a0 a1 : Option Addr) (l0 l1 c0 c1 : Nat) (n d : Int) (f t : Nat → Int) (w : World) (h0 : Hid (Rd w a0 l0 f)) (h1 : Hid (Rd w a1 l1 t)) (m0 : (l0 : Int) ≤ 4096) (m1 : (l1 : Int) ≤ 4096) :
    Calls Trym.prog 8 #[.slice a0 l0 c0, .slice a1 l1 c1, .int .i64 n, .int .i64 d] w fun e w' => e = .returned (.bool true) ∧ Below w.heap.size w w' := by
  have g1 : decide ((4096 : Int) < (l0 : Int)) = false := by simp; omega
  have g2 : decide ((4096 : Int) < (l1 : Int)) = false := by simp; omega
  go_enter Trym.func8, Trym.ntmps8
  go_wp2_with fail
  refine (bytes24 a0 a1 l0 l1 c0 c1 n d _ (by unfold maxLen; omega) (by unfold maxLen; omega)).mono ?_
  rintro e w' ⟨b, rfl, hw⟩
  obtain rfl : w = w' := hw.symm
  clear hw
  cases b
  · go_wp2
    go_ret
    exact ⟨rfl, Below.refl _ _⟩
  go_wp2_with fail
  refine (fits_any a0 a1 l0 l1 c0 c1 n d f t _ h0.out h1.out (by unfold maxLen; omega) (by unfold maxLen; omega)).mono ?_
  rintro e wq ⟨⟨q, hq⟩, b, rfl, hb⟩
  have BBq : Hid (Below w.heap.size w wq) := by rw [hq]; exact below_drewN (Below.refl _ _) _
  have Q0 : Hid (Rd wq a0 l0 f) := h0.out.below BBq.out
  have Q1 : Hid (Rd wq a1 l1 t) := h1.out.below BBq.out
  clear hq h0 h1
  cases b
  · go_wp2
    go_ret
    exact ⟨rfl, BBq.out⟩
  obtain ⟨rfl, hF⟩ := hb rfl
  obtain ⟨N, rfl⟩ : ∃ N : Nat, n = N := ⟨n.toNat, by have := hF.n1; omega⟩
  have HF : Hid (FitsL f t l0 N d) := hF
  clear hF
  go_wp2_with fail
  refine (sorted_any a0 a1 l0 c0 c1 f t _ (by omega) Q0.out Q1.out).mono ?_
  rintro e ws ⟨⟨q', hq'⟩, b, rfl, hsrt⟩
  have BBs : Hid (Below w.heap.size w ws) := by rw [hq']; exact below_drewN BBq.out _
  have S0 : Hid (Rd ws a0 l0 f) := Q0.out.below (by rw [hq']; exact below_drewN (Below.refl _ _) _)
  have S1 : Hid (Rd ws a1 l0 t) := Q1.out.below (by rw [hq']; exact below_drewN (Below.refl _ _) _)
  clear hq' Q0 Q1 BBq
  cases b
  · go_wp2
    go_ret
    exact ⟨rfl, BBs.out⟩
  have HS : Hid (SortedL f t l0) := hsrt rfl
  clear hsrt
  go_wp2_with fail
  refine (clone_any a0 l0 c0 f _ (by omega) S0.out).mono ?_
  rintro e w1 ⟨b0, e0, rfl, r0, B1⟩
  have R0 : Hid (Rd w1 b0 l0 f) := r0
  have BB1 : Hid (Below w.heap.size w w1) := BBs.out.trans (B1.mono BBs.out.size)
  have R1 : Hid (Rd w1 a1 l0 t) := S1.out.below B1
  clear r0 B1 S0 S1 BBs
  go_wp2_with fail
  refine (clone_any a1 l0 c1 t _ (by omega) R1.out).mono ?_
  rintro e w2 ⟨b1, e1, rfl, r1, B2⟩
  have R1' : Hid (Rd w2 b1 l0 t) := r1
  have R0' : Hid (Rd w2 b0 l0 f) := R0.out.below B2
  have BB2 : Hid (Below w.heap.size w w2) := BB1.out.trans (B2.mono BB1.out.size)
  clear r1 B2 BB1 R0 R1
  go_wp2_with fail
  refine (zz_any b0 b1 l0 e0 e1 N d f t _ HF.out R0'.out R1'.out).mono ?_
  rintro e w3 ⟨v, rfl, gv, B3⟩
  have GV : Hid (GotL w3 v f t l0 N d) := gv
  have R0 : Hid (Rd w3 b0 l0 f) := R0'.out.below B3
  have R1 : Hid (Rd w3 b1 l0 t) := R1'.out.below B3
  have BB3 : Hid (Below w.heap.size w w3) := BB2.out.trans (B3.mono BB2.out.size)
  clear gv B3 BB2 R0' R1'
  rcases GV.out with ⟨hz, rfl⟩ | ⟨hl, B, V, L, rfl, hm, ho⟩
  · subst hz
    go_wp2_with fail
    refine wp_loop_rounds 1 ?_
    rw [rounds_succ]
    go_wp2
    go_ret
    exact ⟨rfl, BB3.out⟩
  · have G : Hid (GotRd w3 B N L) := hm.got
    have hin : Hid (∀ i, i < N → InD d (L i)) := ho.inD
    have hch : Hid (∀ i, i < N → Chain (L i)) := fun i hi => (ho.srt HS.out i hi).1
    have hN : (N : Int) ≤ 65536 := HF.out.n2
    have htot : tot L N ≤ 1048576 := by rw [ho.sum]; exact HF.out.sum
    have hb0 : decide (0 < l0) = true := by simp; omega
    clear hm ho GV R0 R1 HF HS
    go_wp2_with fail
    go_loopw [10] (fun i wr => ∃ j : Nat, j ≤ N ∧ i = .int .i64 j ∧ ∃ q, wr = w3.drewN q) (fun i _ => N - (intOf i).toNat)
    case atStart => exact ⟨0, Nat.zero_le _, rfl, 0, rfl⟩
    case round =>
      obtain ⟨j, hj, rfl, q1, rfl⟩ := hrel
      by_cases hjN : j < N
      · obtain ⟨a, c, g0, g1, g2⟩ := G.out j hjN
        have hlenj := (hin.out j hjN).length_le
        have htj := tot_le (L := L) (i := j + 1) (n := N) hin.out (by omega)
        have htj0 := tot_nonneg (L := L) (n := j) (fun i hi => hin.out i (by omega))
        have hlen : (L j).length ≤ 1048576 := by simp only [tot] at htj; omega
        clear hlenj htj htj0
        have G2 : Hid _ := g2
        clear g2
        go_wp2_with fail
        go_loopw [11] (fun i wi => ∃ m : Nat, 1 ≤ m ∧ (m ≤ (L j).length ∨ m = 1) ∧ i = .int .i64 m ∧ ∃ q, wi = w3.drewN q) (fun i _ => (L j).length - (intOf i).toNat)
        case atStart => exact ⟨1, by omega, .inr rfl, rfl, q1, rfl⟩
        case round =>
          obtain ⟨m, hm1, hm2, rfl, q2, rfl⟩ := hrel
          by_cases hmL : m < (L j).length
          · obtain ⟨p, rfl⟩ : ∃ p, m = p + 1 := ⟨m - 1, by omega⟩
            obtain ⟨g, rfl, g3, _⟩ := G2.out (p + 1) hmL
            obtain ⟨g', hgg, _, g4⟩ := G2.out p (by omega)
            obtain rfl : g = g' := by simpa using hgg
            have hle := hch.out j hjN p hmL
            clear hgg
            generalize ((L j).getD (p + 1) (0, 0)).1 = s1 at *
            generalize ((L j).getD p (0, 0)).2 = s2 at *
            go_wp2_with fail
            go_quiet (fail)
            go_wp2
            go_roundw
            case rel => exact ⟨p + 1 + 1, by omega, by omega, by go_num, by first | exact ⟨_, rfl⟩ | (simp only [World.drewN_drewN]; exact ⟨_, rfl⟩)⟩
            case measure => simp [intOf]; omega
          · go_wp2
            go_roundw
            case rel => exact ⟨j + 1, by omega, by go_num, by first | exact ⟨_, rfl⟩ | (simp only [World.drewN_drewN]; exact ⟨_, rfl⟩)⟩
            case measure => simp [intOf]; omega
      · go_wp2
        go_ret
        exact ⟨rfl, below_drewN BB3.out _⟩

set_option maxHeartbeats 1000000 in
theorem law8_out (a0 a1 : Option Addr) (l0 l1 c0 c1 : Nat) (n d : Int) (w : World) (m0 : l0 ≤ maxLen) (m1 : l1 ≤ maxLen) (h : (4096 : Int) < (l0 : Int) ∨ (4096 : Int) < (l1 : Int)) :
    Calls Trym.prog 8 #[.slice a0 l0 c0, .slice a1 l1 c1, .int .i64 n, .int .i64 d] w fun e w' => e = .returned (.bool true) ∧ Below w.heap.size w w' := by
  unfold maxLen at m0 m1
  by_cases t1 : (4096 : Int) < (l0 : Int)
  · clear h
    go_enter Trym.func8, Trym.ntmps8
    go_wp2_with fail
    refine (bytes24 a0 a1 l0 l1 c0 c1 n d _ (by unfold maxLen; omega) (by unfold maxLen; omega)).mono ?_
    rintro e w' ⟨b, rfl, hw⟩
    obtain rfl : w = w' := hw.symm
    clear hw
    cases b
    · go_wp2
      go_ret
      exact ⟨rfl, Below.refl _ _⟩
    · go_wp2
      go_ret
      exact ⟨rfl, Below.refl _ _⟩
  · have t2 : (4096 : Int) < (l1 : Int) := by omega
    clear h
    go_enter Trym.func8, Trym.ntmps8
    go_wp2_with fail
    refine (bytes24 a0 a1 l0 l1 c0 c1 n d _ (by unfold maxLen; omega) (by unfold maxLen; omega)).mono ?_
    rintro e w' ⟨b, rfl, hw⟩
    obtain rfl : w = w' := hw.symm
    clear hw
    cases b
    · go_wp2
      go_ret
      exact ⟨rfl, Below.refl _ _⟩
    · go_wp2
      go_ret
      exact ⟨rfl, Below.refl _ _⟩

theorem law8_any (a0 a1 : Option Addr) (l0 l1 c0 c1 : Nat) (n d : Int) (f t : Nat → Int) (w : World) (h0 : Rd w a0 l0 f) (h1 : Rd w a1 l1 t) (m0 : l0 ≤ maxLen) (m1 : l1 ≤ maxLen) :
    Calls Trym.prog 8 #[.slice a0 l0 c0, .slice a1 l1 c1, .int .i64 n, .int .i64 d] w fun e w' => e = .returned (.bool true) ∧ Below w.heap.size w w' := by
  by_cases h : (4096 : Int) < (l0 : Int) ∨ (4096 : Int) < (l1 : Int)
  · exact law8_out a0 a1 l0 l1 c0 c1 n d w m0 m1 h
  · exact law8_in a0 a1 l0 l1 c0 c1 n d f t w h0 h1 (by omega) (by omega)

end Go.Proofs.Qxb6000744aMods.Lost
