/-
  THE TWO LAWS OF THE GEOMETRY, out of what ZZGeometry comes to.
-/
import Derived.Test.Qxb6000744aModsGeoWalks
namespace Go.Proofs.Qxb6000744aMods.Geo
open Go.RowKit

/-- The spacing of the descriptor's pieces, and how many there are. -/
def sp (a : Int) : Int := if a + 392 ≤ 3670016 then (a + 392) / 14 else 262144
def ct (a : Int) : Int := if a + 392 ≤ 3670016 then 14 else cd a 262116

theorem sp_bd (a : Int) (h : 1 ≤ a) : 28 ≤ sp a ∧ sp a ≤ 262144 := by
  unfold sp; split <;> omega

theorem ct_bd (a : Int) (h : 1 ≤ a) (h2 : a ≤ 5000000000000000000) : 14 ≤ ct a ∧ ct a ≤ 20000000000000 := by
  unfold ct
  split
  · omega
  · have h3 := cd_lo a 262116 (by omega)
    have h4 := cd_hi a 262116 (by omega)
    omega

/-- The last piece lies within the file. -/
theorem last_fits (a : Int) (h : 1 ≤ a) : (ct a - 1) * sp a + 28 ≤ a + ct a * 28 ∧ 0 ≤ (ct a - 1) * sp a ∧ (ct a - 1) * sp a ≤ a + ct a * 28 := by
  unfold ct sp
  by_cases hc : a + 392 ≤ 3670016
  · rw [if_pos hc, if_pos hc]
    omega
  · rw [if_neg hc, if_neg hc]
    have h3 := cd_lo a 262116 (by omega)
    have h4 := cd_hi a 262116 (by omega)
    omega

/-- What a call of ZZGeometry comes to, at one input, in one world. -/
def ZZat (k p s L z b a x y : Int) (w : World) : Prop := Calls Trym.prog 27 #[.int .i64 k, .int .i64 p, .int .i64 s, .int .i64 L] w fun e w' => e = .returned (.tuple #[.int .i64 z, .int .i64 b, .int .i64 a, .int .i64 28, .int .i64 x, .int .i64 y]) ∧ Grown w w'

set_option maxHeartbeats 1000000 in
theorem law9_core (k p s L z b a x y : Int) (w : World) (hf : Hid (fits k p L)) (hc : ZZat k p s L z b a x y w)
    (h1 : 1 ≤ k) (h2 : k ≤ 65536) (h5 : 0 ≤ L) (h6 : L ≤ 4398046511104) (z1 : 1 ≤ z) (b1 : 1 ≤ b) (q1 : L ≤ k * z * b) (q2 : k * z * b ≤ 2 * L + k) (q3 : 1 < b → k * z * (b - 1) < L) (q4 : 1 < z → k * (z - 1) < L)
    (q5 : 1 ≤ s → z ≤ s) (q6 : 1 ≤ s → 1 < b → z = s) (q7 : k * z ≤ L + k) (q8 : k ≤ k * z ∧ z ≤ k * z) (q9 : b ≤ 2 * L + k) (q10 : 0 ≤ k * z * (b - 1)) (q11 : 0 ≤ k * (z - 1)) :
    Calls Trym.prog 9 #[.int .i64 k, .int .i64 p, .int .i64 s, .int .i64 L] w fun e w' => e = .returned (.bool true) ∧ Grown w w' := by
  obtain ⟨q8a, q8b⟩ := q8
  by_cases t1 : 1 ≤ s
  · have q5 := q5 t1
    have q6 := q6 t1
    by_cases t2 : 1 < b
    · obtain rfl := q6 t2
      have q3 := q3 t2
      clear q6
      by_cases t3 : 1 < z
      · have q4 := q4 t3
        go_enter Trym.func9, Trym.ntmps9
        go_wp2_with (first | (go_at_call 26; refine (fits_yes _ _ _ _ hf).mono ?_; rintro e w' ⟨rfl, rfl⟩) | (go_at_call 27; refine Calls.mono hc ?_; rintro e w' ⟨rfl, hb⟩))
        go_ret
        exact ⟨rfl, by assumption⟩
      · go_enter Trym.func9, Trym.ntmps9
        go_wp2_with (first | (go_at_call 26; refine (fits_yes _ _ _ _ hf).mono ?_; rintro e w' ⟨rfl, rfl⟩) | (go_at_call 27; refine Calls.mono hc ?_; rintro e w' ⟨rfl, hb⟩))
        go_ret
        exact ⟨rfl, by assumption⟩
    · clear q3 q6
      by_cases t3 : 1 < z
      · have q4 := q4 t3
        go_enter Trym.func9, Trym.ntmps9
        go_wp2_with (first | (go_at_call 26; refine (fits_yes _ _ _ _ hf).mono ?_; rintro e w' ⟨rfl, rfl⟩) | (go_at_call 27; refine Calls.mono hc ?_; rintro e w' ⟨rfl, hb⟩))
        go_ret
        exact ⟨rfl, by assumption⟩
      · clear q4
        go_enter Trym.func9, Trym.ntmps9
        go_wp2_with (first | (go_at_call 26; refine (fits_yes _ _ _ _ hf).mono ?_; rintro e w' ⟨rfl, rfl⟩) | (go_at_call 27; refine Calls.mono hc ?_; rintro e w' ⟨rfl, hb⟩))
        go_ret
        exact ⟨rfl, by assumption⟩
  · clear q5 q6
    by_cases t2 : 1 < b
    · have q3 := q3 t2
      by_cases t3 : 1 < z
      · have q4 := q4 t3
        go_enter Trym.func9, Trym.ntmps9
        go_wp2_with (first | (go_at_call 26; refine (fits_yes _ _ _ _ hf).mono ?_; rintro e w' ⟨rfl, rfl⟩) | (go_at_call 27; refine Calls.mono hc ?_; rintro e w' ⟨rfl, hb⟩))
        go_ret
        exact ⟨rfl, by assumption⟩
      · clear q4
        go_enter Trym.func9, Trym.ntmps9
        go_wp2_with (first | (go_at_call 26; refine (fits_yes _ _ _ _ hf).mono ?_; rintro e w' ⟨rfl, rfl⟩) | (go_at_call 27; refine Calls.mono hc ?_; rintro e w' ⟨rfl, hb⟩))
        go_ret
        exact ⟨rfl, by assumption⟩
    · clear q3
      by_cases t3 : 1 < z
      · have q4 := q4 t3
        go_enter Trym.func9, Trym.ntmps9
        go_wp2_with (first | (go_at_call 26; refine (fits_yes _ _ _ _ hf).mono ?_; rintro e w' ⟨rfl, rfl⟩) | (go_at_call 27; refine Calls.mono hc ?_; rintro e w' ⟨rfl, hb⟩))
        go_ret
        exact ⟨rfl, by assumption⟩
      · clear q4
        go_enter Trym.func9, Trym.ntmps9
        go_wp2_with (first | (go_at_call 26; refine (fits_yes _ _ _ _ hf).mono ?_; rintro e w' ⟨rfl, rfl⟩) | (go_at_call 27; refine Calls.mono hc ?_; rintro e w' ⟨rfl, hb⟩))
        go_ret
        exact ⟨rfl, by assumption⟩

set_option maxHeartbeats 1000000 in
theorem law9_out (k p s L : Int) (w : World) (hf : ¬ fits k p L) :
    Calls Trym.prog 9 #[.int .i64 k, .int .i64 p, .int .i64 s, .int .i64 L] w fun e w' => e = .returned (.bool true) ∧ Grown w w' := by
  go_enter Trym.func9, Trym.ntmps9
  go_wp2_with (go_at_call 26; refine (fits_no _ _ _ _ hf).mono ?_; rintro e w' ⟨rfl, rfl⟩)
  go_ret
  exact ⟨rfl, Grown.refl _⟩

set_option maxHeartbeats 1000000 in
theorem law10_core (k p s L z b a x y : Int) (w : World) (hf : Hid (fits k p L)) (hc : ZZat k p s L z b a x y w)
    (a1 : 1 ≤ a) (a2 : a ≤ 5000000000000000000) (x1 : 28 ≤ x) (x2 : x ≤ 262144) (y1 : 14 ≤ y) (y2 : y ≤ 20000000000000) (q1 : (y - 1) * x + 28 ≤ a + y * 28) (q2 : 0 ≤ (y - 1) * x) :
    Calls Trym.prog 10 #[.int .i64 k, .int .i64 p, .int .i64 s, .int .i64 L] w fun e w' => e = .returned (.bool true) ∧ Grown w w' := by
  go_enter Trym.func10, Trym.ntmps10
  go_wp2_with (first | (go_at_call 26; refine (fits_yes _ _ _ _ hf).mono ?_; rintro e w' ⟨rfl, rfl⟩) | (go_at_call 27; refine Calls.mono hc ?_; rintro e w' ⟨rfl, hb⟩))
  go_ret
  exact ⟨rfl, by assumption⟩

set_option maxHeartbeats 1000000 in
theorem law10_out (k p s L : Int) (w : World) (hf : ¬ fits k p L) :
    Calls Trym.prog 10 #[.int .i64 k, .int .i64 p, .int .i64 s, .int .i64 L] w fun e w' => e = .returned (.bool true) ∧ Grown w w' := by
  go_enter Trym.func10, Trym.ntmps10
  go_wp2_with (go_at_call 26; refine (fits_no _ _ _ _ hf).mono ?_; rintro e w' ⟨rfl, rfl⟩)
  go_ret
  exact ⟨rfl, Grown.refl _⟩

/-- ZZGeometry, at every input that fits. -/
def ZZ : Prop := ∀ (k p s L : Int) (w : World), fits k p L → ZZat k p s L (sz k s L) (bl k s L) (ar k p s L) (sp (ar k p s L)) (ct (ar k p s L)) w

theorem law9_any (hzz : ZZ) (k p s L : Int) (w : World) :
    Calls Trym.prog 9 #[.int .i64 k, .int .i64 p, .int .i64 s, .int .i64 L] w fun e w' => e = .returned (.bool true) ∧ Grown w w' := by
  by_cases hf : fits k p L
  · have hf' := hf
    obtain ⟨h1, h2, h3, h4, h5, h6⟩ := hf'
    have z1 := sz_pos k s L
    have b1 := bl_pos k s L
    have q8 := row_ge k s L h1
    exact law9_core k p s L _ _ _ _ _ w hf (hzz k p s L w hf) h1 h2 h5 h6 z1 b1 (holds k s L h1) (rowbl_le k s L h1 h5) (no_spare k s L h1) (size_least k s L h1)
      (size_le_shard k s L) (size_is_shard k s L h1 h5) (row_le k s L h1 h5) q8 (bl_le k s L h1 h5) (Int.mul_nonneg (by omega) (by omega)) (Int.mul_nonneg (by omega) (by omega))
  · exact law9_out k p s L w hf

theorem law10_any (hzz : ZZ) (k p s L : Int) (w : World) :
    Calls Trym.prog 10 #[.int .i64 k, .int .i64 p, .int .i64 s, .int .i64 L] w fun e w' => e = .returned (.bool true) ∧ Grown w w' := by
  by_cases hf : fits k p L
  · have hf' := hf
    obtain ⟨h1, h2, h3, h4, h5, h6⟩ := hf'
    obtain ⟨_, _, a1, a2⟩ := nb_bd k p s L h1 h2 h3 h4 h5 h6
    have hs := sp_bd _ a1
    have hc := ct_bd _ a1 a2
    have hl := last_fits _ a1
    exact law10_core k p s L _ _ _ _ _ w hf (hzz k p s L w hf) a1 a2 hs.1 hs.2 hc.1 hc.2 hl.1 hl.2.1
  · exact law10_out k p s L w hf

end Go.Proofs.Qxb6000744aMods.Geo
