/-
  PLAIN ARITHMETIC OF THE GEOMETRY: no Go in sight.
-/
namespace Go.Proofs.Qxb6000744aMods.Geo

/-- The ceiling of a quotient, as the Go text reckons it. -/
def cd (a b : Int) : Int := (a + b - 1) / b
/-- The block size. -/
def sz (k s L : Int) : Int := max 1 (min s (cd L k))
/-- The blocks of a shard. -/
def bl (k s L : Int) : Int := max 1 (cd L (k * sz k s L))
/-- The data area. -/
def ar (k p s L : Int) : Int := (k + p) * bl k s L * (sz k s L + 4)

theorem cd_lo (a b : Int) (hb : 1 ≤ b) : a ≤ b * cd a b := by
  unfold cd
  have h1 := Int.mul_ediv_add_emod (a + b - 1) b
  have h2 := Int.emod_lt_of_pos (a + b - 1) (show 0 < b by omega)
  omega

theorem cd_hi (a b : Int) (hb : 1 ≤ b) : b * cd a b ≤ a + b - 1 := by
  unfold cd
  have h1 := Int.mul_ediv_add_emod (a + b - 1) b
  have h2 := Int.emod_nonneg (a + b - 1) (show b ≠ 0 by omega)
  omega

theorem cd_nonneg (a b : Int) (ha : 0 ≤ a) (hb : 1 ≤ b) : 0 ≤ cd a b := by
  unfold cd
  exact Int.ediv_nonneg (by omega) (by omega)

theorem cd_le (a b : Int) (ha : 0 ≤ a) (hb : 1 ≤ b) : cd a b ≤ a := by
  have h0 := cd_nonneg a b ha hb
  have h1 := cd_hi a b hb
  have h2 : 0 ≤ (b - 1) * (cd a b - 1) ∨ cd a b = 0 := by
    by_cases h : cd a b = 0
    · exact .inr h
    · exact .inl (Int.mul_nonneg (by omega) (by omega))
  rcases h2 with h2 | h2
  · have e : (b - 1) * (cd a b - 1) = b * cd a b - b - cd a b + 1 := by
      rw [Int.sub_mul, Int.mul_sub, Int.one_mul, Int.mul_one]; omega
    omega
  · omega

theorem sz_pos (k s L : Int) : 1 ≤ sz k s L := by unfold sz; omega

theorem sz_le (k s L : Int) : sz k s L ≤ max 1 (cd L k) := by unfold sz; omega

theorem bl_pos (k s L : Int) : 1 ≤ bl k s L := by unfold bl; omega

/-- A row of blocks is at most the stream and one stretch of k. -/
theorem row_le (k s L : Int) (hk : 1 ≤ k) (hL : 0 ≤ L) : k * sz k s L ≤ L + k := by
  have h1 := sz_le k s L
  have h2 := cd_hi L k hk
  have h3 : sz k s L ≤ 1 ∨ sz k s L ≤ cd L k := by omega
  rcases h3 with h3 | h3
  · have := Int.mul_le_mul_of_nonneg_left h3 (show 0 ≤ k by omega)
    omega
  · have := Int.mul_le_mul_of_nonneg_left h3 (show 0 ≤ k by omega)
    omega

theorem row_pos (k s L : Int) (hk : 1 ≤ k) : 1 ≤ k * sz k s L := by
  have h1 := sz_pos k s L
  have := Int.mul_le_mul_of_nonneg_left h1 (show 0 ≤ k by omega)
  omega

theorem row_ge (k s L : Int) (hk : 1 ≤ k) : k ≤ k * sz k s L ∧ sz k s L ≤ k * sz k s L := by
  have h1 := sz_pos k s L
  have h2 := Int.mul_le_mul_of_nonneg_left h1 (show 0 ≤ k by omega)
  have h3 := Int.mul_le_mul_of_nonneg_right hk (show 0 ≤ sz k s L by omega)
  omega

/-- The blocks hold the stream. -/
theorem holds (k s L : Int) (hk : 1 ≤ k) : L ≤ k * sz k s L * bl k s L := by
  have hp := row_pos k s L hk
  have h1 := cd_lo L (k * sz k s L) hp
  have h2 : cd L (k * sz k s L) ≤ bl k s L := by unfold bl; omega
  have h3 := Int.mul_le_mul_of_nonneg_left h2 (show 0 ≤ k * sz k s L by omega)
  omega

/-- No row of blocks to spare. -/
theorem no_spare (k s L : Int) (hk : 1 ≤ k) (hb : 1 < bl k s L) : k * sz k s L * (bl k s L - 1) < L := by
  have hp := row_pos k s L hk
  have h1 := cd_hi L (k * sz k s L) hp
  have h2 : bl k s L = cd L (k * sz k s L) := by unfold bl at *; omega
  rw [← h2] at h1
  rw [Int.mul_sub, Int.mul_one]
  omega

theorem rowbl_le (k s L : Int) (hk : 1 ≤ k) (hL : 0 ≤ L) : k * sz k s L * bl k s L ≤ 2 * L + k := by
  have hr := row_le k s L hk hL
  by_cases hb : 1 < bl k s L
  · have h := no_spare k s L hk hb
    rw [Int.mul_sub, Int.mul_one] at h
    omega
  · have h := bl_pos k s L
    have e : bl k s L = 1 := by omega
    rw [e, Int.mul_one]
    omega

theorem bl_le (k s L : Int) (hk : 1 ≤ k) (hL : 0 ≤ L) : bl k s L ≤ 2 * L + k := by
  have h1 := rowbl_le k s L hk hL
  have hp := row_pos k s L hk
  have hb := bl_pos k s L
  have h2 := Int.mul_le_mul_of_nonneg_right hp (show 0 ≤ bl k s L by omega)
  omega

theorem size_least (k s L : Int) (hk : 1 ≤ k) (hz : 1 < sz k s L) : k * (sz k s L - 1) < L := by
  have h1 : sz k s L ≤ cd L k := by unfold sz at *; omega
  have h2 := cd_hi L k hk
  have h3 := Int.mul_le_mul_of_nonneg_left h1 (show 0 ≤ k by omega)
  rw [Int.mul_sub, Int.mul_one]
  omega

theorem size_le_shard (k s L : Int) (hs : 1 ≤ s) : sz k s L ≤ s := by unfold sz; omega

/-- Where there is more than one block, the size is the shard's. -/
theorem size_is_shard (k s L : Int) (hk : 1 ≤ k) (hL : 0 ≤ L) (hs : 1 ≤ s) (hb : 1 < bl k s L) : sz k s L = s := by
  by_cases hc : s ≤ cd L k
  · unfold sz; omega
  · exfalso
    have h0 := cd_nonneg L k hL hk
    have hz : sz k s L = max 1 (cd L k) := by unfold sz; omega
    have h1 := cd_lo L k hk
    have h2 : cd L k ≤ sz k s L := by omega
    have h3 := Int.mul_le_mul_of_nonneg_left h2 (show 0 ≤ k by omega)
    have h4 := no_spare k s L hk hb
    have h5 := Int.mul_le_mul_of_nonneg_left (show 1 ≤ bl k s L - 1 by omega) (show 0 ≤ k * sz k s L by omega)
    omega

/-- The data area: what is multiplied on the way, and the bound. -/
theorem nb_bd (k p s L : Int) (hk : 1 ≤ k) (hk2 : k ≤ 65536) (hp : 0 ≤ p) (hp2 : p ≤ 65536) (hL : 0 ≤ L) (hL2 : L ≤ 4398046511104) :
    1 ≤ (k + p) * bl k s L ∧ (k + p) * bl k s L ≤ ar k p s L ∧ 1 ≤ ar k p s L ∧ ar k p s L ≤ 5000000000000000000 := by
  have hz := sz_pos k s L
  have hb := bl_pos k s L
  have h1 := rowbl_le k s L hk hL
  have hn : 1 ≤ (k + p) * bl k s L := by
    have := Int.mul_le_mul (show 1 ≤ k + p by omega) hb (by omega) (by omega)
    omega
  have hz4 := Int.mul_le_mul_of_nonneg_left (show 1 ≤ sz k s L + 4 by omega) (show 0 ≤ (k + p) * bl k s L by omega)
  -- b * z ≤ k * z * b
  have hg := (row_ge k s L hk).2
  have h2 := Int.mul_le_mul_of_nonneg_right hg (show 0 ≤ bl k s L by omega)
  have hX0 : 0 ≤ sz k s L * bl k s L := Int.mul_nonneg (by omega) (by omega)
  -- p * (z * b) ≤ 65536 * (k z b)
  have h3 := Int.mul_le_mul_of_nonneg_right hp2 hX0
  have h4 : (k + p) * bl k s L * (sz k s L + 4) ≤ 5 * (k * sz k s L * bl k s L + p * (sz k s L * bl k s L)) := by
    have e1 : (k + p) * bl k s L * (5 * sz k s L) = 5 * (k * sz k s L * bl k s L + p * (sz k s L * bl k s L)) := by
      rw [Int.add_mul]
      have a1 : k * bl k s L * (5 * sz k s L) = 5 * (k * sz k s L * bl k s L) := by ac_rfl
      have a2 : p * bl k s L * (5 * sz k s L) = 5 * (p * (sz k s L * bl k s L)) := by ac_rfl
      rw [Int.add_mul, a1, a2, Int.mul_add]
    rw [← e1]
    exact Int.mul_le_mul_of_nonneg_left (by omega) (by omega)
  refine ⟨hn, ?_, ?_, ?_⟩ <;> unfold ar <;> omega

end Go.Proofs.Qxb6000744aMods.Geo
