/-
  THE LAW FnLostSymbolsKeepsTotalLength (7).
-/
import Derived.Test.Qxb6000744aModsLostGot
namespace Go.Proofs.Qxb6000744aMods.Lost
open Go.RowKit

set_option maxHeartbeats 4000000 in
theorem law7_in (a0 a1 : Option Addr) (l0 l1 c0 c1 : Nat) (n d : Int) (f t : Nat → Int) (w : World) (h0 : Hid (Rd w a0 l0 f)) (h1 : Hid (Rd w a1 l1 t)) (m0 : (l0 : Int) ≤ 4096) (m1 : (l1 : Int) ≤ 4096) :
    Calls Trym.prog 7 #[.slice a0 l0 c0, .slice a1 l1 c1, .int .i64 n, .int .i64 d] w fun e w' => e = .returned (.bool true) ∧ Below w.heap.size w w' := by
  have g1 : decide ((4096 : Int) < (l0 : Int)) = false := by simp; omega
  have g2 : decide ((4096 : Int) < (l1 : Int)) = false := by simp; omega
  go_enter Trym.func7, Trym.ntmps7
  go_wp2_with fail
  refine (bytes23 a0 a1 l0 l1 c0 c1 n d _ (by unfold maxLen; omega) (by unfold maxLen; omega)).mono ?_
  rintro e w' ⟨b, rfl, hw⟩
  obtain rfl : w = w' := hw.symm
  clear hw
  cases b
  · go_wp2
    go_ret
    exact ⟨rfl, Below.refl _ _⟩
  go_wp2_with fail
  refine (fits_any a0 a1 l0 l1 c0 c1 n d f t _ h0.out h1.out (by unfold maxLen; omega) (by unfold maxLen; omega)).mono ?_
  rintro e wq ⟨⟨q, hq⟩, b, rfl, hb⟩
  have BBq : Hid (Below w.heap.size w wq) := by rw [hq]; exact below_drewN (Below.refl _ _) _
  have Q0 : Hid (Rd wq a0 l0 f) := h0.out.below BBq.out
  have Q1 : Hid (Rd wq a1 l1 t) := h1.out.below BBq.out
  clear hq h0 h1
  cases b
  · go_wp2
    go_ret
    exact ⟨rfl, BBq.out⟩
  obtain ⟨rfl, hF⟩ := hb rfl
  obtain ⟨N, rfl⟩ : ∃ N : Nat, n = N := ⟨n.toNat, by have := hF.n1; omega⟩
  have HF : Hid (FitsL f t l0 N d) := hF
  clear hF
  go_wp2_with fail
  refine (clone_any a0 l0 c0 f _ (by omega) Q0.out).mono ?_
  rintro e w1 ⟨b0, e0, rfl, r0, B1⟩
  have R0 : Hid (Rd w1 b0 l0 f) := r0
  have BB1 : Hid (Below w.heap.size w w1) := BBq.out.trans (B1.mono BBq.out.size)
  have R1 : Hid (Rd w1 a1 l0 t) := Q1.out.below B1
  clear r0 B1 Q0 Q1 BBq
  go_wp2_with fail
  refine (clone_any a1 l0 c1 t _ (by omega) R1.out).mono ?_
  rintro e w2 ⟨b1, e1, rfl, r1, B2⟩
  have R1' : Hid (Rd w2 b1 l0 t) := r1
  have R0' : Hid (Rd w2 b0 l0 f) := R0.out.below B2
  have BB2 : Hid (Below w.heap.size w w2) := BB1.out.trans (B2.mono BB1.out.size)
  clear r1 B2 BB1 R0 R1
  go_wp2_with fail
  refine (zz_any b0 b1 l0 e0 e1 N d f t _ HF.out R0'.out R1'.out).mono ?_
  rintro e w3 ⟨v, rfl, gv, B3⟩
  have GV : Hid (GotL w3 v f t l0 N d) := gv
  have R0 : Hid (Rd w3 b0 l0 f) := R0'.out.below B3
  have R1 : Hid (Rd w3 b1 l0 t) := R1'.out.below B3
  have BB3 : Hid (Below w.heap.size w w3) := BB2.out.trans (B3.mono BB2.out.size)
  clear gv B3 BB2 R0' R1'
  go_wp2_with fail
  go_loopw [10, 11] (fun s i wr => ∃ k : Nat, k ≤ l0 ∧ i = .int .i64 k ∧ s = .int .i64 (sumTo f t k) ∧ ∃ q, wr = w3.drewN q) (fun _ i _ => l0 - (intOf i).toNat)
  case atStart => exact ⟨0, Nat.zero_le _, rfl, rfl, 0, rfl⟩
  case round =>
    obtain ⟨k, hk, rfl, rfl, q2, rfl⟩ := hrel
    have hs0 := sumTo_nonneg f t k
    have hs1 : sumTo f t k ≤ 1048576 := Int.le_trans (sumTo_le f t hk) HF.out.sum
    by_cases hlt : k < l0
    · have hs2 : Hid (sumTo f t (k + 1) ≤ 1048576) := Int.le_trans (sumTo_le f t (show k + 1 ≤ l0 by omega)) HF.out.sum
      have hf0 : 0 ≤ f k := (HF.out.run k hlt).1
      have ht0 : t k ≤ 1048576 := Int.le_trans (HF.out.run k hlt).2 HF.out.nd
      rcases R0.out with hz | ⟨x0, o0, rfl, hc0⟩
      · omega
      rcases R1.out with hz | ⟨x1, o1, rfl, hc1⟩
      · omega
      have k0 := hc0 k hlt
      have k1 := hc1 k hlt
      clear hc0 hc1
      by_cases hft : f k < t k
      · have hS : Hid (sumTo f t (k + 1) = _) := sumTo_pos hft
        go_wp2_with fail
        go_quiet (fail)
        go_wp2_with fail
        go_quiet (fail)
        go_wp2
        go_roundw
        case rel => exact ⟨k + 1, by omega, by go_num, by rw [hS.out], by first | exact ⟨_, rfl⟩ | (simp only [World.drewN_drewN]; exact ⟨_, rfl⟩)⟩
        case measure => simp [intOf]; omega
      · have hS : Hid (sumTo f t (k + 1) = _) := sumTo_neg hft
        go_wp2_with fail
        go_quiet (fail)
        go_wp2
        go_roundw
        case rel => exact ⟨k + 1, by omega, by go_num, by rw [hS.out], by first | exact ⟨_, rfl⟩ | (simp only [World.drewN_drewN]; exact ⟨_, rfl⟩)⟩
        case measure => simp [intOf]; omega
    · obtain rfl : k = l0 := by omega
      clear hlt
      rcases GV.out with ⟨hz, rfl⟩ | ⟨hl, B, V, L, rfl, hm, ho⟩
      · subst hz
        have hS0 : (sumTo f t 0 == 0) = true := by simp [sumTo]
        go_wp2_with fail
        refine wp_loop_rounds 1 ?_
        rw [rounds_succ]
        go_wp2
        go_ret
        exact ⟨rfl, below_drewN BB3.out _⟩
      · have G : Hid (GotRd w3 B N L) := hm.got
        have hin : Hid (∀ i, i < N → InD d (L i)) := ho.inD
        have hN : (N : Int) ≤ 65536 := HF.out.n2
        have heq : (sumTo f t k == tot L N) = true := by rw [ho.sum]; simp
        have htot : tot L N ≤ 1048576 := by rw [ho.sum]; exact hs1
        have HEQ : Hid ((sumTo f t k == tot L N) = true) := heq
        clear hm ho heq GV R0 R1 HF
        go_wp2_with fail
        go_loopw [12, 13] (fun s i wr => ∃ j : Nat, j ≤ N ∧ i = .int .i64 j ∧ s = .int .i64 (tot L j) ∧ Hid (Below w3.heap.size w3 wr)) (fun _ i _ => N - (intOf i).toNat)
        case atStart => exact ⟨0, Nat.zero_le _, rfl, rfl, below_drewN (Below.refl _ _) _⟩
        case round =>
          obtain ⟨j, hj, rfl, rfl, hbel⟩ := hrel
          by_cases hjN : j < N
          · obtain ⟨wo, rfl⟩ : ∃ wo : World, wo = wr := ⟨_, rfl⟩
            go_wp2_with fail
            go_loopw [12, 14] (fun s i wi => ∃ m : Nat, m ≤ (L j).length ∧ i = .int .i64 m ∧ s = .int .i64 (tot L j + lsum ((L j).take m)) ∧ Hid (Below w3.heap.size w3 wi)) (fun _ i _ => (L j).length - (intOf i).toNat)
            case atStart => exact ⟨0, Nat.zero_le _, rfl, by simp [lsum], hbel⟩
            case round =>
              obtain ⟨m, hm, rfl, rfl, hbel'⟩ := hrel
              obtain ⟨a, c, g0, g1, g2⟩ := (G.out.below hbel'.out) j hjN
              have hlenj := (hin.out j hjN).length_le
              have htj := tot_le (L := L) (i := j + 1) (n := N) hin.out (by omega)
              have htj0 := tot_nonneg (L := L) (n := j) (fun i hi => hin.out i (by omega))
              have hlen : (L j).length ≤ 1048576 := by simp only [tot] at htj; omega
              have hp := part_le hin.out hjN m
              clear hlenj htj htj0
              by_cases hmL : m < (L j).length
              · obtain ⟨g, rfl, g3, g4⟩ := g2 m hmL
                have hD := hin.out j hjN _ (getD_mem hmL)
                have hS : Hid (_ = _) := lsum_take_succ hmL
                have hp2 := part_le hin.out hjN (m + 1)
                rw [hS.out] at hp2
                generalize ((L j).getD m (0, 0)).1 = s1 at *
                generalize ((L j).getD m (0, 0)).2 = s2 at *
                obtain ⟨d1, d2, d3⟩ := hD
                obtain ⟨hp2a, hp2b⟩ := hp2
                obtain ⟨hpa, hpb⟩ := hp
                clear g2
                go_wp2_with fail
                go_roundw
                case rel => exact ⟨m + 1, by omega, by go_num, by rw [hS.out]; exact congrArg (Value.int .i64) (by omega), hbel'.out.alloc hbel'.out.size _⟩
                case measure => simp [intOf]; omega
              · obtain rfl : m = (L j).length := by omega
                have hT : Hid (tot L j + lsum ((L j).take (L j).length) = tot L (j + 1)) := by rw [List.take_length]; rfl
                clear g2 hp
                go_wp2
                go_roundw
                case rel => exact ⟨j + 1, by omega, by go_num, by rw [hT.out], hbel'⟩
                case measure => simp [intOf]; omega
          · obtain rfl : j = N := by omega
            have heq := HEQ.out
            go_wp2
            go_ret
            exact ⟨rfl, BB3.out.trans (hbel.out.mono BB3.out.size)⟩

set_option maxHeartbeats 1000000 in
theorem law7_out (a0 a1 : Option Addr) (l0 l1 c0 c1 : Nat) (n d : Int) (w : World) (m0 : l0 ≤ maxLen) (m1 : l1 ≤ maxLen) (h : (4096 : Int) < (l0 : Int) ∨ (4096 : Int) < (l1 : Int)) :
    Calls Trym.prog 7 #[.slice a0 l0 c0, .slice a1 l1 c1, .int .i64 n, .int .i64 d] w fun e w' => e = .returned (.bool true) ∧ Below w.heap.size w w' := by
  unfold maxLen at m0 m1
  by_cases t1 : (4096 : Int) < (l0 : Int)
  · clear h
    go_enter Trym.func7, Trym.ntmps7
    go_wp2_with fail
    refine (bytes23 a0 a1 l0 l1 c0 c1 n d _ (by unfold maxLen; omega) (by unfold maxLen; omega)).mono ?_
    rintro e w' ⟨b, rfl, hw⟩
    obtain rfl : w = w' := hw.symm
    clear hw
    cases b
    · go_wp2
      go_ret
      exact ⟨rfl, Below.refl _ _⟩
    · go_wp2
      go_ret
      exact ⟨rfl, Below.refl _ _⟩
  · have t2 : (4096 : Int) < (l1 : Int) := by omega
    clear h
    go_enter Trym.func7, Trym.ntmps7
    go_wp2_with fail
    refine (bytes23 a0 a1 l0 l1 c0 c1 n d _ (by unfold maxLen; omega) (by unfold maxLen; omega)).mono ?_
    rintro e w' ⟨b, rfl, hw⟩
    obtain rfl : w = w' := hw.symm
    clear hw
    cases b
    · go_wp2
      go_ret
      exact ⟨rfl, Below.refl _ _⟩
    · go_wp2
      go_ret
      exact ⟨rfl, Below.refl _ _⟩

theorem law7_any (a0 a1 : Option Addr) (l0 l1 c0 c1 : Nat) (n d : Int) (f t : Nat → Int) (w : World) (h0 : Rd w a0 l0 f) (h1 : Rd w a1 l1 t) (m0 : l0 ≤ maxLen) (m1 : l1 ≤ maxLen) :
    Calls Trym.prog 7 #[.slice a0 l0 c0, .slice a1 l1 c1, .int .i64 n, .int .i64 d] w fun e w' => e = .returned (.bool true) ∧ Below w.heap.size w w' := by
  by_cases h : (4096 : Int) < (l0 : Int) ∨ (4096 : Int) < (l1 : Int)
  · exact law7_out a0 a1 l0 l1 c0 c1 n d w m0 m1 h
  · exact law7_in a0 a1 l0 l1 c0 c1 n d f t w h0 h1 (by omega) (by omega)

end Go.Proofs.Qxb6000744aMods.Lost
