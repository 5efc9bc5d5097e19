/-
  THE LAW FnLostSymbolsCoverExactlyTheRuns (6).
-/
import Derived.Test.Qxb6000744aModsLostCov
namespace Go.Proofs.Qxb6000744aMods.Lost
open Go.RowKit

set_option maxRecDepth 100000 in
set_option maxHeartbeats 4000000 in
theorem law6_in (a0 a1 : Option Addr) (l0 l1 c0 c1 : Nat) (n d : Int) (f t : Nat → Int) (w : World) (h0 : Hid (Rd w a0 l0 f)) (h1 : Hid (Rd w a1 l1 t)) (m0 : (l0 : Int) ≤ 4096) (m1 : (l1 : Int) ≤ 4096) :
    Calls Trym.prog 6 #[.slice a0 l0 c0, .slice a1 l1 c1, .int .i64 n, .int .i64 d] w fun e w' => e = .returned (.bool true) ∧ Below w.heap.size w w' := by
  have g1 : decide ((4096 : Int) < (l0 : Int)) = false := by simp; omega
  have g2 : decide ((4096 : Int) < (l1 : Int)) = false := by simp; omega
  go_enter Trym.func6, Trym.ntmps6
  go_wp2_with fail
  refine (bytes19 a0 a1 l0 l1 c0 c1 n d _ (by unfold maxLen; omega) (by unfold maxLen; omega)).mono ?_
  rintro e w' ⟨b, rfl, hw⟩
  obtain rfl : w = w' := hw.symm
  clear hw
  cases b
  · go_wp2
    go_ret
    exact ⟨rfl, Below.refl _ _⟩
  go_wp2_with fail
  refine (fits_any a0 a1 l0 l1 c0 c1 n d f t _ h0.out h1.out (by unfold maxLen; omega) (by unfold maxLen; omega)).mono ?_
  rintro e wq ⟨⟨q, hq⟩, b, rfl, hb⟩
  have BBq : Hid (Below w.heap.size w wq) := by rw [hq]; exact below_drewN (Below.refl _ _) _
  have Q0 : Hid (Rd wq a0 l0 f) := h0.out.below BBq.out
  have Q1 : Hid (Rd wq a1 l1 t) := h1.out.below BBq.out
  clear hq h0 h1
  cases b
  · go_wp2
    go_ret
    exact ⟨rfl, BBq.out⟩
  obtain ⟨rfl, hF⟩ := hb rfl
  obtain ⟨N, rfl⟩ : ∃ N : Nat, n = N := ⟨n.toNat, by have := hF.n1; omega⟩
  have HF : Hid (FitsL f t l0 N d) := hF
  clear hF
  go_wp2_with fail
  refine (clone_any a0 l0 c0 f _ (by omega) Q0.out).mono ?_
  rintro e w1 ⟨b0, e0, rfl, r0, B1⟩
  have R0 : Hid (Rd w1 b0 l0 f) := r0
  have BB1 : Hid (Below w.heap.size w w1) := BBq.out.trans (B1.mono BBq.out.size)
  have R1 : Hid (Rd w1 a1 l0 t) := Q1.out.below B1
  clear r0 B1 Q0 Q1 BBq
  go_wp2_with fail
  refine (clone_any a1 l0 c1 t _ (by omega) R1.out).mono ?_
  rintro e w2 ⟨b1, e1, rfl, r1, B2⟩
  have R1' : Hid (Rd w2 b1 l0 t) := r1
  have R0' : Hid (Rd w2 b0 l0 f) := R0.out.below B2
  have BB2 : Hid (Below w.heap.size w w2) := BB1.out.trans (B2.mono BB1.out.size)
  clear r1 B2 BB1 R0 R1
  go_wp2_with fail
  refine (zz_any b0 b1 l0 e0 e1 N d f t _ HF.out R0'.out R1'.out).mono ?_
  rintro e w3 ⟨v, rfl, gv, B3⟩
  have GV : Hid (GotL w3 v f t l0 N d) := gv
  have R0 : Hid (Rd w3 b0 l0 f) := R0'.out.below B3
  have R1 : Hid (Rd w3 b1 l0 t) := R1'.out.below B3
  have BB3 : Hid (Below w.heap.size w w3) := BB2.out.trans (B3.mono BB2.out.size)
  clear gv B3 BB2 R0' R1'
  rcases GV.out with ⟨hz, rfl⟩ | ⟨hl, B, V, L, rfl, hm, ho⟩
  · subst hz
    have q32 : ∀ (w : World) (a : Option Addr) (n c n' c' : Nat), (binOp .eql 32 (.slice a n c) (.slice none n' c')).run Trym.prog w = .ok (.bool a.isNone) w := fun w a n c n' c' => Lib.run_eql_slice_nil w _ _ a n c n' c' Trym.underlying32
    go_wp2
    go_ret
    exact ⟨rfl, BB3.out⟩
  · have G : Hid (GotRd w3 B N L) := hm.got
    have hO : Hid (OInv f t l0 N d l0 L) := ho
    have hN : (N : Int) ≤ 65536 := HF.out.n2
    have hN1 : (1 : Int) ≤ N := HF.out.n1
    have hd1 := HF.out.d1
    have hd2 := HF.out.d2
    have htot : tot L N ≤ 1048576 := by rw [ho.sum]; exact HF.out.sum
    have hl0 : ((l0 : Int) == 0) = false := by simp; omega
    obtain ⟨M, hM⟩ : ∃ M : Nat, (N : Int) * d = M := ⟨((N : Int) * d).toNat, by have := Int.mul_nonneg (show 0 ≤ (N : Int) by omega) (show 0 ≤ d by omega); omega⟩
    have hM2 : M ≤ 1048576 := by have := HF.out.nd; omega
    have hmk := run_make_row' (P := Trym.prog) 34 4 (.bool false) 1 Trym.underlying34 info4 rfl .i64 .i64 M (by omega) (by omega)
    have HM : Hid ((N : Int) * d = M) := hM
    clear hm ho GV
    go_wp2_with fail
    clear hM
    -- LOOP 1: the runs are marked in 'want'
    go_loopw [12] (fun i wr => ∃ k : Nat, k ≤ l0 ∧ i = .int .i64 k ∧ Hid (BoolRow wr w3.heap.size M (CovO f t k)) ∧ Hid (Below w3.heap.size w3 wr)) (fun i _ => l0 - (intOf i).toNat)
    case atStart => exact ⟨0, Nat.zero_le _, rfl, (BoolRow.start w3 M).congr (fun j _ => ⟨fun h => h.elim, fun ⟨_, h, _⟩ => by omega⟩), (Below.refl _ _).alloc (Nat.le_refl _) _⟩
    case round =>
      obtain ⟨k, hk, rfl, hrow, hbel⟩ := hrel
      by_cases hlt : k < l0
      · have hf0 : 0 ≤ f k := (HF.out.run k hlt).1
        have ht0 : t k ≤ M := by have := (HF.out.run k hlt).2; rw [HM.out] at this; exact this
        obtain ⟨wo, rfl⟩ : ∃ wo : World, wo = wr := ⟨_, rfl⟩
        rcases R0.out with hz | ⟨x0, o0, rfl, hc0⟩
        · omega
        rcases R1.out with hz | ⟨x1, o1, rfl, hc1⟩
        · omega
        have k0 : wo.cell? ⟨x0, o0 + k, none⟩ = some (.int .i64 (f k)) := (hbel.out.cell (p := ⟨x0, o0 + k, none⟩) (World.block_lt_of_cell? w3 _ (hc0 k hlt))).trans (hc0 k hlt)
        have K1 : Hid (w3.cell? ⟨x1, o1 + k, none⟩ = some (.int .i64 (t k))) := hc1 k hlt
        clear hc0 hc1
        go_wp2_with fail
        clear k0
        go_loopw [13] (fun x wi => ∃ y : Int, x = .int .i64 y ∧ 0 ≤ y ∧ f k ≤ y ∧ (y = f k ∨ y ≤ t k) ∧ Hid (BoolRow wi w3.heap.size M (fun z => CovO f t k z ∨ (f k ≤ z ∧ z < y))) ∧ Hid (Below w3.heap.size w3 wi)) (fun x _ => (t k - intOf x).toNat)
        case atStart => exact ⟨f k, rfl, hf0, Int.le_refl _, .inl rfl, hrow.out.congr (fun j _ => ⟨.inl, fun h => by rcases h with h | h; exact h; omega⟩), hbel⟩
        case round =>
          obtain ⟨y, rfl, y0, y1, y2, hrow', hbel'⟩ := hrel
          have k1 : wr.cell? ⟨x1, o1 + k, none⟩ = some (.int .i64 (t k)) := (hbel'.out.cell (p := ⟨x1, o1 + k, none⟩) (World.block_lt_of_cell? w3 _ K1.out)).trans K1.out
          by_cases hy : y < t k
          · obtain ⟨yn, rfl⟩ : ∃ yn : Nat, y = yn := ⟨y.toNat, by omega⟩
            obtain ⟨v, c1, _⟩ := hrow'.out.cell (j := yn) (by omega)
            have c2 := hrow'.out.frozen yn
            have Y2 : Hid (_ ∨ _) := y2
            clear y2
            go_wp2_with fail
            go_roundw
            case rel => exact ⟨(yn : Int) + 1, rfl, by omega, by omega, .inr (by omega), (hrow'.out.mark yn).congr (fun j _ => mark_run _ y1), hbel'.out.setCell (Nat.le_refl _) _⟩
            case measure => simp [intOf]; omega
          · have Y2 : Hid (y = f k ∨ y ≤ t k) := y2
            clear y2
            go_wp2
            go_roundw
            case rel =>
              have y2 := Y2.out
              refine ⟨k + 1, by omega, by go_num, hrow'.out.congr (fun j _ => ⟨fun h => ?_, fun ⟨i, hi, h⟩ => ?_⟩), hbel'⟩
              · rcases h with ⟨i, hi, h⟩ | h
                · exact ⟨i, by omega, h⟩
                · exact ⟨k, by omega, h.1, by omega⟩
              · by_cases e : i = k
                · subst e; exact .inr ⟨h.1, by omega⟩
                · exact .inl ⟨i, by omega, h⟩
            case measure => simp [intOf]; omega
      · obtain rfl : k = l0 := by omega
        have hW1 := hrow.out.lt
        have hmk := run_make_row' (P := Trym.prog) 34 4 (.bool false) 1 Trym.underlying34 info4 rfl .i64 .i64 M (by omega) (by omega)
        obtain ⟨w4, rfl⟩ : ∃ w4 : World, w4 = wr := ⟨_, rfl⟩
        have G4 : Hid (GotRd w4 B N L) := G.out.below hbel.out
        clear R0 R1 G HF
        go_wp2_with fail
        clear hmk
        -- LOOP 3: the stretches are marked in 'have'
        go_loopw [15] (fun i wr => ∃ j : Nat, j ≤ N ∧ i = .int .i64 j ∧ Hid (BoolRow wr w4.heap.size M (HV L d j)) ∧ Hid (Below w4.heap.size w4 wr)) (fun i _ => N - (intOf i).toNat)
        case atStart => exact ⟨0, Nat.zero_le _, rfl, (BoolRow.start w4 M).congr (fun j _ => ⟨fun h => h.elim, fun h => (HV_zero L d j h).elim⟩), (Below.refl _ _).alloc (Nat.le_refl _) _⟩
        case round =>
          obtain ⟨j, hj, rfl, hrow2, hbel2⟩ := hrel
          by_cases hjN : j < N
          · have hlenj := (hO.out.inD j hjN).length_le
            have htj := tot_le (L := L) (i := j + 1) (n := N) hO.out.inD (by omega)
            have htj0 := tot_nonneg (L := L) (n := j) (fun i hi => hO.out.inD i (by omega))
            have hlenL : (L j).length ≤ 1048576 := by simp only [tot] at htj; omega
            have jd0 : 0 ≤ (j : Int) * d := Int.mul_nonneg (by omega) (by omega)
            have jd1 : (j : Int) * d + d ≤ M := by have := mul_apart hd1 hjN; rw [HM.out] at this; exact this
            clear hlenj htj htj0
            go_wp2_with fail
            -- LOOP 4: shard j's stretches
            go_loopw [16] (fun i wi => ∃ m : Nat, m ≤ (L j).length ∧ i = .int .i64 m ∧ Hid (BoolRow wi w4.heap.size M (HV2 L d j m)) ∧ Hid (Below w4.heap.size w4 wi)) (fun i _ => (L j).length - (intOf i).toNat)
            case atStart => exact ⟨0, Nat.zero_le _, rfl, hrow2.out.congr (fun z _ => (HV2_zero L d j z).symm), hbel2⟩
            case round =>
              obtain ⟨m, hm, rfl, hrow3, hbel3⟩ := hrel
              obtain ⟨a, c, g0, g1, g2⟩ := (G4.out.below hbel3.out) j hjN
              have G2 : Hid _ := g2
              clear g2
              by_cases hmL : m < (L j).length
              · obtain ⟨g, rfl, g3, g4⟩ := G2.out m hmL
                have hD := hO.out.inD j hjN _ (getD_mem hmL)
                have hsucc : Hid (∀ z, HV2 L d j (m + 1) z ↔ _) := HV2_succ hmL
                obtain ⟨wu, rfl⟩ : ∃ wu : World, wu = wr := ⟨_, rfl⟩
                have hW2 := hrow3.out.lt
                generalize ((L j).getD m (0, 0)).1 = s1 at *
                generalize ((L j).getD m (0, 0)).2 = s2 at *
                obtain ⟨d1, d2, d3⟩ := hD
                clear G2
                have hb1 : decide (s1 < 0) = false := by simp; omega
                have hb2 : decide (d < s2) = false := by simp; omega
                have hb3 : decide (s2 ≤ s1) = false := by simp; omega
                go_wp2_with fail
                clear g0 g3 g4 hb1 hb2 hb3
                -- LOOP 5: the stretch's bytes
                go_loopw [18] (fun x wi => ∃ y : Int, x = .int .i64 y ∧ s1 ≤ y ∧ y ≤ s2 ∧ Hid (BoolRow wi w4.heap.size M (fun z => HV2 L d j m z ∨ ((j : Int) * d + s1 ≤ z ∧ z < (j : Int) * d + y))) ∧ Hid (Below w4.heap.size w4 wi) ∧ Hid (wi.heap[wu.heap.size]? = some (.cells #[.int .i64 s1, .int .i64 s2] 37 (0, 0)))) (fun x _ => (s2 - intOf x).toNat)
                case atStart => exact ⟨s1, rfl, Int.le_refl _, by omega, (hrow3.out.alloc _).congr (fun z _ => ⟨.inl, fun h => by rcases h with h | h; exact h; omega⟩), hbel3.out.alloc (by omega) _, heap_alloc_new _ _⟩
                case round =>
                  obtain ⟨y, rfl, y1, y2, hrow4, hbel4, hU⟩ := hrel
                  have u1 := (two_cells hU.out).2
                  by_cases hy : y < s2
                  · obtain ⟨xn, hx⟩ : ∃ xn : Nat, (j : Int) * d + y = xn := ⟨((j : Int) * d + y).toNat, by omega⟩
                    have hxM : xn < M := by omega
                    obtain ⟨v, c1, _⟩ := hrow4.out.cell hxM
                    have c2 := hrow4.out.frozen xn
                    have hne : wu.heap.size ≠ w4.heap.size := by omega
                    have HNE : Hid (wu.heap.size ≠ w4.heap.size) := hne
                    have HX : Hid ((j : Int) * d + y = xn) := hx
                    clear hne
                    go_wp2_with fail
                    go_roundw
                    case rel => exact ⟨y + 1, rfl, by omega, by omega, (hrow4.out.mark xn).congr (fun z _ => by rw [← HX.out, show (j : Int) * d + (y + 1) = (j : Int) * d + y + 1 by omega]; exact mark_run _ (by omega)), hbel4.out.setCell (Nat.le_refl _) _, (Below.heap_setCell _ _ _ _ HNE.out).trans hU.out⟩
                    case measure => simp [intOf]; omega
                  · obtain rfl : y = s2 := by omega
                    go_wp2
                    go_roundw
                    case rel => exact ⟨m + 1, by omega, by go_num, hrow4.out.congr (fun z _ => (hsucc.out z).symm), hbel4⟩
                    case measure => simp [intOf]; omega
              · obtain rfl : m = (L j).length := by omega
                clear G2
                go_wp2
                go_roundw
                case rel => exact ⟨j + 1, by omega, by go_num, hrow3.out.congr (fun z _ => HV2_full L d j z), hbel3⟩
                case measure => simp [intOf]; omega
          · obtain rfl : j = N := by omega
            obtain ⟨w5, rfl⟩ : ∃ w5 : World, w5 = wr := ⟨_, rfl⟩
            have hwant : Hid (BoolRow w5 w3.heap.size M (CovO f t k)) := hrow.out.below hbel2.out hW1
            have hcov : Hid (∀ z : Nat, z < M → (HV L d j z ↔ CovO f t k z)) := fun z hz => cover hO.out hd1 (by omega) (by rw [HM.out]; omega)
            have BB5 : Hid (Below w.heap.size w w5) := (BB3.out.trans (hbel.out.mono BB3.out.size)).trans (hbel2.out.mono (by have := BB3.out.size; have := hbel.out.size; omega))
            clear hrow G4 hO BB3 hbel hbel2
            go_wp2_with fail
            -- LOOP 6: the two are compared
            go_loopw [19] (fun i wr => ∃ x : Nat, x ≤ M ∧ i = .int .i64 x ∧ ∃ q, wr = w5.drewN q) (fun i _ => M - (intOf i).toNat)
            case atStart => exact ⟨0, Nat.zero_le _, rfl, 0, rfl⟩
            case round =>
              obtain ⟨x, hx, rfl, q5, rfl⟩ := hrel
              by_cases hxM : x < M
              · obtain ⟨v1, c1, i1⟩ := hwant.out.cell hxM
                obtain ⟨v2, c2, i2⟩ := hrow2.out.cell hxM
                have ev : v1 = v2 := by
                  have := i1.trans ((hcov.out x hxM).symm.trans i2.symm)
                  cases v1 <;> cases v2 <;> simp at this ⊢
                clear i1 i2
                subst ev
                go_wp2_with fail
                go_quiet (fail)
                go_wp2
                go_roundw
                case rel => exact ⟨x + 1, by omega, by go_num, by first | exact ⟨_, rfl⟩ | (simp only [World.drewN_drewN]; exact ⟨_, rfl⟩)⟩
                case measure => simp [intOf]; omega
              · go_wp2
                go_ret
                exact ⟨rfl, below_drewN BB5.out _⟩

set_option maxHeartbeats 1000000 in
theorem law6_out (a0 a1 : Option Addr) (l0 l1 c0 c1 : Nat) (n d : Int) (w : World) (m0 : l0 ≤ maxLen) (m1 : l1 ≤ maxLen) (h : (4096 : Int) < (l0 : Int) ∨ (4096 : Int) < (l1 : Int)) :
    Calls Trym.prog 6 #[.slice a0 l0 c0, .slice a1 l1 c1, .int .i64 n, .int .i64 d] w fun e w' => e = .returned (.bool true) ∧ Below w.heap.size w w' := by
  unfold maxLen at m0 m1
  by_cases t1 : (4096 : Int) < (l0 : Int)
  · clear h
    go_enter Trym.func6, Trym.ntmps6
    go_wp2_with fail
    refine (bytes19 a0 a1 l0 l1 c0 c1 n d _ (by unfold maxLen; omega) (by unfold maxLen; omega)).mono ?_
    rintro e w' ⟨b, rfl, hw⟩
    obtain rfl : w = w' := hw.symm
    clear hw
    cases b
    · go_wp2
      go_ret
      exact ⟨rfl, Below.refl _ _⟩
    · go_wp2
      go_ret
      exact ⟨rfl, Below.refl _ _⟩
  · have t2 : (4096 : Int) < (l1 : Int) := by omega
    clear h
    go_enter Trym.func6, Trym.ntmps6
    go_wp2_with fail
    refine (bytes19 a0 a1 l0 l1 c0 c1 n d _ (by unfold maxLen; omega) (by unfold maxLen; omega)).mono ?_
    rintro e w' ⟨b, rfl, hw⟩
    obtain rfl : w = w' := hw.symm
    clear hw
    cases b
    · go_wp2
      go_ret
      exact ⟨rfl, Below.refl _ _⟩
    · go_wp2
      go_ret
      exact ⟨rfl, Below.refl _ _⟩

theorem law6_any (a0 a1 : Option Addr) (l0 l1 c0 c1 : Nat) (n d : Int) (f t : Nat → Int) (w : World) (h0 : Rd w a0 l0 f) (h1 : Rd w a1 l1 t) (m0 : l0 ≤ maxLen) (m1 : l1 ≤ maxLen) :
    Calls Trym.prog 6 #[.slice a0 l0 c0, .slice a1 l1 c1, .int .i64 n, .int .i64 d] w fun e w' => e = .returned (.bool true) ∧ Below w.heap.size w w' := by
  by_cases h : (4096 : Int) < (l0 : Int) ∨ (4096 : Int) < (l1 : Int)
  · exact law6_out a0 a1 l0 l1 c0 c1 n d w m0 m1 h
  · exact law6_in a0 a1 l0 l1 c0 c1 n d f t w h0 h1 (by omega) (by omega)

end Go.Proofs.Qxb6000744aMods.Lost
