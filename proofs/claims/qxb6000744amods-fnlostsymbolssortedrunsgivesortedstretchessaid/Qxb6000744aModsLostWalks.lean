/-
  WALKS OF THE LEAVES ON THE ROAD OF THE LAWS ON LOST SYMBOLS: the bounds on bytes (19, 23, 24), lostFits (20), lostSorted (25).
-/
import Derived.Test.Qxb6000744aModsProg
import Derived.Test.Qxb6000744aModsLostPlain
import Derived.WalkKit
import Derived.WalkSpells
import Derived.WalkLawsBesides
import Derived.BigQuiet
namespace Go.Proofs.Qxb6000744aMods.Lost
open Go.RowKit

/-- A slice of ints that can be read up to its length: it is empty, or its cells lie at a known address. -/
def Rd (w : World) (a : Option Addr) (len : Nat) (z : Nat → Int) : Prop :=
  len = 0 ∨ ∃ b off, a = some ⟨b, off, none⟩ ∧ ∀ i, i < len → w.cell? ⟨b, off + i, none⟩ = some (.int .i64 (z i))

set_option maxHeartbeats 400000 in
theorem bytes19 (a0 a1 : Option Addr) (l0 l1 c0 c1 : Nat) (n d : Int) (w : World) (h0 : l0 ≤ maxLen) (h1 : l1 ≤ maxLen) :
    Calls Trym.prog 19 #[.slice a0 l0 c0, .slice a1 l1 c1, .int .i64 n, .int .i64 d] w fun e w' => ∃ b, e = .returned (.bool b) ∧ w' = w := by
  unfold maxLen at h0 h1
  go_enter Trym.func19, Trym.ntmps19
  go_wp2
  all_goals (go_ret; exact ⟨_, rfl, rfl⟩)

set_option maxHeartbeats 400000 in
theorem bytes23 (a0 a1 : Option Addr) (l0 l1 c0 c1 : Nat) (n d : Int) (w : World) (h0 : l0 ≤ maxLen) (h1 : l1 ≤ maxLen) :
    Calls Trym.prog 23 #[.slice a0 l0 c0, .slice a1 l1 c1, .int .i64 n, .int .i64 d] w fun e w' => ∃ b, e = .returned (.bool b) ∧ w' = w := by
  unfold maxLen at h0 h1
  go_enter Trym.func23, Trym.ntmps23
  go_wp2
  all_goals (go_ret; exact ⟨_, rfl, rfl⟩)

set_option maxHeartbeats 400000 in
theorem bytes24 (a0 a1 : Option Addr) (l0 l1 c0 c1 : Nat) (n d : Int) (w : World) (h0 : l0 ≤ maxLen) (h1 : l1 ≤ maxLen) :
    Calls Trym.prog 24 #[.slice a0 l0 c0, .slice a1 l1 c1, .int .i64 n, .int .i64 d] w fun e w' => ∃ b, e = .returned (.bool b) ∧ w' = w := by
  unfold maxLen at h0 h1
  go_enter Trym.func24, Trym.ntmps24
  go_wp2
  all_goals (go_ret; exact ⟨_, rfl, rfl⟩)

/-- How lostFits ends: some Bool; where it is true, the runs fit. -/
def EndFits (f t : Nat → Int) (l0 l1 : Nat) (n d : Int) (w : World) (e : Ending) (w' : World) : Prop :=
  (∃ q, w' = w.drewN q) ∧ ∃ b, e = .returned (.bool b) ∧ (b = true → l0 = l1 ∧ FitsL f t l0 n d)

theorem end_false {f t : Nat → Int} {l0 l1 : Nat} {n d : Int} {w w' : World} (h : ∃ q, w' = w.drewN q) : EndFits f t l0 l1 n d w (.returned (.bool false)) w' :=
  ⟨h, false, rfl, fun h => by cases h⟩

set_option maxHeartbeats 1000000 in
theorem fits_body (b0 o0 b1 o1 : Nat) (len c0 c1 : Nat) (n d : Int) (f t : Nat → Int) (w : World) (hl : len ≤ 4096) (hd1 : 1 ≤ d) (hd2 : d ≤ 65536) (hn1 : 1 ≤ n) (hn2 : n ≤ 65536) (hq : n ≤ 1048576 / d) (hnd : n * d ≤ 1048576) (hnd1 : 1 ≤ n * d)
    (k0 : Hid (∀ i, i < len → w.cell? ⟨b0, o0 + i, none⟩ = some (.int .i64 (f i)))) (k1 : Hid (∀ i, i < len → w.cell? ⟨b1, o1 + i, none⟩ = some (.int .i64 (t i)))) :
    Calls Trym.prog 20 #[.slice (some ⟨b0, o0, none⟩) len c0, .slice (some ⟨b1, o1, none⟩) len c1, .int .i64 n, .int .i64 d] w (EndFits f t len len n d w) := by
  go_enter Trym.func20, Trym.ntmps20
  go_wp2
  go_loopw [10, 11] (fun s i wr => ∃ k : Nat, k ≤ len ∧ i = .int .i64 k ∧ s = .int .i64 (sumTo f t k) ∧ sumTo f t k ≤ 1048576 ∧ Hid (∀ j, j < k → 0 ≤ f j ∧ t j ≤ n * d) ∧ ∃ q, wr = w.drewN q) (fun _ i _ => len - (intOf i).toNat)
  case atStart => exact ⟨0, Nat.zero_le _, rfl, rfl, by simp [sumTo], fun j h => by omega, 0, rfl⟩
  case round =>
    obtain ⟨k, hk, rfl, rfl, hs, hall, q, rfl⟩ := hrel
    have hs0 := sumTo_nonneg f t k
    by_cases hlt : k < len
    · have e0 := k0.out k hlt
      have e1 := k1.out k hlt
      by_cases t0 : f k < 0
      · go_wp2
        all_goals (go_ret; exact end_false ⟨_, rfl⟩)
      by_cases t1 : n * d < t k
      · go_wp2
        all_goals (go_ret; exact end_false ⟨_, rfl⟩)
      have hall' : Hid (∀ j, j < k + 1 → 0 ≤ f j ∧ t j ≤ n * d) := fun j hj => by
        by_cases e : j = k
        · subst e; omega
        · exact hall.out j (by omega)
      clear hall
      by_cases t2 : f k < t k
      · have hS : Hid (sumTo f t (k + 1) = _) := sumTo_pos t2
        by_cases t3 : 1048576 < sumTo f t k + (t k - f k)
        · go_wp2_with fail
          go_quiet (fail)
          go_wp2_with fail
          go_quiet (fail)
          go_wp2
          go_ret
          exact end_false ⟨_, rfl⟩
        · go_wp2_with fail
          go_quiet (fail)
          go_wp2_with fail
          go_quiet (fail)
          go_wp2
          go_roundw
          case rel => exact ⟨k + 1, by omega, by go_num, by rw [hS.out], by rw [hS.out]; omega, hall', _, rfl⟩
          case measure => simp [intOf]; omega
      · have hS : Hid (sumTo f t (k + 1) = _) := sumTo_neg t2
        go_wp2_with fail
        go_quiet (fail)
        go_wp2
        go_roundw
        case rel => exact ⟨k + 1, by omega, by go_num, by rw [hS.out], by rw [hS.out]; omega, hall', _, rfl⟩
        case measure => simp [intOf]; omega
    · go_wp2
      go_ret
      obtain rfl : k = len := by omega
      exact ⟨⟨_, rfl⟩, true, rfl, fun _ => ⟨rfl, hl, hd1, hd2, hn1, hn2, hnd, hall.out, hs⟩⟩

set_option maxHeartbeats 1000000 in
theorem fits_none (a0 a1 : Option Addr) (c0 c1 : Nat) (n d : Int) (f t : Nat → Int) (w : World) (hd1 : 1 ≤ d) (hd2 : d ≤ 65536) (hn1 : 1 ≤ n) (hn2 : n ≤ 65536) (hq : n ≤ 1048576 / d) (hnd : n * d ≤ 1048576) (hnd1 : 1 ≤ n * d) :
    Calls Trym.prog 20 #[.slice a0 0 c0, .slice a1 0 c1, .int .i64 n, .int .i64 d] w (EndFits f t 0 0 n d w) := by
  go_enter Trym.func20, Trym.ntmps20
  go_wp2
  refine wp_loop_rounds 1 ?_
  rw [rounds_succ]
  go_wp2
  go_ret
  exact ⟨⟨0, rfl⟩, true, rfl, fun _ => ⟨rfl, by omega, hd1, hd2, hn1, hn2, hnd, fun i hi => by omega, by simp [sumTo]⟩⟩

set_option maxHeartbeats 1000000 in
theorem fits_any (a0 a1 : Option Addr) (l0 l1 c0 c1 : Nat) (n d : Int) (f t : Nat → Int) (w : World) (h0 : Rd w a0 l0 f) (h1 : Rd w a1 l1 t) (m0 : l0 ≤ maxLen) (m1 : l1 ≤ maxLen) :
    Calls Trym.prog 20 #[.slice a0 l0 c0, .slice a1 l1 c1, .int .i64 n, .int .i64 d] w (EndFits f t l0 l1 n d w) := by
  have H0 : Hid (Rd w a0 l0 f) := h0
  have H1 : Hid (Rd w a1 l1 t) := h1
  clear h0 h1
  unfold maxLen at m0 m1
  by_cases t1 : (4096 : Int) < l0
  · go_enter Trym.func20, Trym.ntmps20
    go_wp2
    go_ret
    exact end_false ⟨0, rfl⟩
  by_cases t2 : (4096 : Int) < l1
  · go_enter Trym.func20, Trym.ntmps20
    go_wp2
    go_ret
    exact end_false ⟨0, rfl⟩
  by_cases t3 : l0 = l1
  case neg =>
    have t3' : ((l0 : Int) != (l1 : Int)) = true := by rw [bne_iff_ne]; omega
    go_enter Trym.func20, Trym.ntmps20
    go_wp2
    go_ret
    exact end_false ⟨0, rfl⟩
  subst t3
  clear t2
  by_cases t4 : d < 1
  · go_enter Trym.func20, Trym.ntmps20
    go_wp2
    go_ret
    exact end_false ⟨0, rfl⟩
  by_cases t5 : 65536 < d
  · go_enter Trym.func20, Trym.ntmps20
    go_wp2
    go_ret
    exact end_false ⟨0, rfl⟩
  by_cases t6 : n < 1
  · go_enter Trym.func20, Trym.ntmps20
    go_wp2
    go_ret
    exact end_false ⟨0, rfl⟩
  by_cases t7 : 65536 < n
  · go_enter Trym.func20, Trym.ntmps20
    go_wp2
    go_ret
    exact end_false ⟨0, rfl⟩
  by_cases t8 : 1048576 / d < n
  · go_enter Trym.func20, Trym.ntmps20
    go_wp2
    go_ret
    exact end_false ⟨0, rfl⟩
  have hnd : n * d ≤ 1048576 := nd_le (by omega) (by omega)
  have hnd1 := (nd_ge (n := n) (d := d) (by omega) (by omega)).1
  rcases H0.out with rfl | ⟨b0, o0, rfl, k0⟩
  · exact fits_none _ _ _ _ _ _ _ _ _ (by omega) (by omega) (by omega) (by omega) (by omega) hnd hnd1
  · rcases H1.out with rfl | ⟨b1, o1, rfl, k1⟩
    · exact fits_none _ _ _ _ _ _ _ _ _ (by omega) (by omega) (by omega) (by omega) (by omega) hnd hnd1
    · exact fits_body b0 o0 b1 o1 l0 c0 c1 n d f t w (by omega) (by omega) (by omega) (by omega) (by omega) (by omega) hnd hnd1 k0 k1

/-- How lostSorted ends. -/
def EndSorted (f t : Nat → Int) (len : Nat) (w : World) (e : Ending) (w' : World) : Prop :=
  (∃ q, w' = w.drewN q) ∧ ∃ b, e = .returned (.bool b) ∧ (b = true → SortedL f t len)

theorem sorted_false {f t : Nat → Int} {len : Nat} {w w' : World} (h : ∃ q, w' = w.drewN q) : EndSorted f t len w (.returned (.bool false)) w' :=
  ⟨h, false, rfl, fun h => by cases h⟩

set_option maxHeartbeats 1000000 in
theorem sorted_body (b0 o0 b1 o1 : Nat) (len c0 c1 : Nat) (f t : Nat → Int) (w : World) (hl : len ≤ 4096)
    (k0 : Hid (∀ i, i < len → w.cell? ⟨b0, o0 + i, none⟩ = some (.int .i64 (f i)))) (k1 : Hid (∀ i, i < len → w.cell? ⟨b1, o1 + i, none⟩ = some (.int .i64 (t i)))) :
    Calls Trym.prog 25 #[.slice (some ⟨b0, o0, none⟩) len c0, .slice (some ⟨b1, o1, none⟩) len c1] w (EndSorted f t len w) := by
  go_enter Trym.func25, Trym.ntmps25
  go_wp2
  go_loopw [5] (fun i wr => ∃ k : Nat, k ≤ len ∧ i = .int .i64 k ∧ Hid (SortedL f t k) ∧ ∃ q, wr = w.drewN q) (fun i _ => len - (intOf i).toNat)
  case atStart => exact ⟨0, Nat.zero_le _, rfl, fun j h => by omega, 0, rfl⟩
  case round =>
    obtain ⟨k, hk, rfl, hall, q, rfl⟩ := hrel
    by_cases hlt : k < len
    · have e0 := k0.out k hlt
      have e1 := k1.out k hlt
      by_cases t0 : t k < f k
      · go_wp2_with fail
        go_quiet (fail)
        go_wp2
        go_ret
        exact sorted_false (by first | exact ⟨_, rfl⟩ | (simp only [World.drewN_drewN]; exact ⟨_, rfl⟩))
      by_cases t1 : 0 < k
      · obtain ⟨m, rfl⟩ : ∃ m, k = m + 1 := ⟨k - 1, by omega⟩
        have e2 := k1.out m (by omega)
        by_cases t2 : f (m + 1) < t m
        · go_wp2_with fail
          go_quiet (fail)
          go_wp2_with fail
          go_quiet (fail)
          go_wp2
          go_ret
          exact sorted_false (by first | exact ⟨_, rfl⟩ | (simp only [World.drewN_drewN]; exact ⟨_, rfl⟩))
        · have hall' : Hid (SortedL f t (m + 1 + 1)) := fun i hi => by
            by_cases e : i = m + 1
            · subst e; exact ⟨by omega, fun _ => by simpa using t2⟩
            · exact hall.out i (by omega)
          clear hall
          go_wp2_with fail
          go_quiet (fail)
          go_wp2_with fail
          go_quiet (fail)
          go_wp2
          go_roundw
          case rel => exact ⟨m + 1 + 1, by omega, by go_num, hall', by first | exact ⟨_, rfl⟩ | (simp only [World.drewN_drewN]; exact ⟨_, rfl⟩)⟩
          case measure => simp [intOf]; omega
      · obtain rfl : k = 0 := by omega
        simp only [Nat.add_zero] at e0 e1
        have hall' : Hid (SortedL f t (0 + 1)) := fun i hi => by
          obtain rfl : i = 0 := by omega
          exact ⟨by omega, fun h => by omega⟩
        clear hall
        go_wp2_with fail
        go_quiet (fail)
        go_wp2_with fail
        go_quiet (fail)
        go_wp2
        go_roundw
        case rel => exact ⟨0 + 1, by omega, by go_num, hall', by first | exact ⟨_, rfl⟩ | (simp only [World.drewN_drewN]; exact ⟨_, rfl⟩)⟩
        case measure => simp [intOf]; omega
    · go_wp2
      go_ret
      obtain rfl : k = len := by omega
      exact ⟨⟨_, rfl⟩, true, rfl, fun _ => hall.out⟩

set_option maxHeartbeats 1000000 in
theorem sorted_none (a0 a1 : Option Addr) (c0 c1 : Nat) (f t : Nat → Int) (w : World) :
    Calls Trym.prog 25 #[.slice a0 0 c0, .slice a1 0 c1] w (EndSorted f t 0 w) := by
  go_enter Trym.func25, Trym.ntmps25
  go_wp2
  refine wp_loop_rounds 1 ?_
  rw [rounds_succ]
  go_wp2
  go_ret
  exact ⟨⟨0, rfl⟩, true, rfl, fun _ i hi => by omega⟩

theorem sorted_any (a0 a1 : Option Addr) (len c0 c1 : Nat) (f t : Nat → Int) (w : World) (hl : len ≤ 4096) (h0 : Rd w a0 len f) (h1 : Rd w a1 len t) :
    Calls Trym.prog 25 #[.slice a0 len c0, .slice a1 len c1] w (EndSorted f t len w) := by
  rcases h0 with rfl | ⟨b0, o0, rfl, k0⟩
  · exact sorted_none _ _ _ _ _ _ _
  · rcases h1 with rfl | ⟨b1, o1, rfl, k1⟩
    · exact sorted_none _ _ _ _ _ _ _
    · exact sorted_body b0 o0 b1 o1 len c0 c1 f t w hl k0 k1

end Go.Proofs.Qxb6000744aMods.Lost
