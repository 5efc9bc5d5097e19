/-
  WALKS OF THE GEOMETRY's LEAVES: ceilDiv64 (31), geoFits (26).
-/
import Derived.Test.Qxb6000744aModsProg
import Derived.Test.Qxb6000744aModsGeoPlain
import Derived.WalkKit
import Derived.WalkSpells
namespace Go.Proofs.Qxb6000744aMods.Geo
open Go.RowKit

set_option maxHeartbeats 400000 in
theorem ceil_any (a b : Int) (w : World) (ha : 0 ≤ a) (ha2 : a ≤ 5000000000000000000) (hb : 1 ≤ b) (hb2 : b ≤ 1000000000000000) :
    Calls Trym.prog 31 #[.int .i64 a, .int .i64 b] w fun e w' => e = .returned (.int .i64 (cd a b)) ∧ w' = w := by
  go_enter Trym.func31, Trym.ntmps31
  go_wp2
  go_ret
  exact ⟨rfl, rfl⟩

/-- The stream and the setting lie within what the law speaks of. -/
def fits (k p L : Int) : Prop := 1 ≤ k ∧ k ≤ 65536 ∧ 0 ≤ p ∧ p ≤ 65536 ∧ 0 ≤ L ∧ L ≤ 4398046511104

set_option maxHeartbeats 400000 in
theorem fits_yes (k p L : Int) (w : World) (h : fits k p L) :
    Calls Trym.prog 26 #[.int .i64 k, .int .i64 p, .int .i64 L] w fun e w' => e = .returned (.bool true) ∧ w' = w := by
  obtain ⟨h1, h2, h3, h4, h5, h6⟩ := h
  go_enter Trym.func26, Trym.ntmps26
  go_wp2
  go_ret
  exact ⟨rfl, rfl⟩

set_option maxHeartbeats 400000 in
theorem fits_no (k p L : Int) (w : World) (h : ¬ fits k p L) :
    Calls Trym.prog 26 #[.int .i64 k, .int .i64 p, .int .i64 L] w fun e w' => e = .returned (.bool false) ∧ w' = w := by
  by_cases h1 : k < 1
  · go_enter Trym.func26, Trym.ntmps26
    go_wp2
    go_ret
    exact ⟨rfl, rfl⟩
  by_cases h2 : 65536 < k
  · go_enter Trym.func26, Trym.ntmps26
    go_wp2
    go_ret
    exact ⟨rfl, rfl⟩
  by_cases h3 : p < 0
  · go_enter Trym.func26, Trym.ntmps26
    go_wp2
    go_ret
    exact ⟨rfl, rfl⟩
  by_cases h4 : 65536 < p
  · go_enter Trym.func26, Trym.ntmps26
    go_wp2
    go_ret
    exact ⟨rfl, rfl⟩
  by_cases h5 : L < 0
  · go_enter Trym.func26, Trym.ntmps26
    go_wp2
    go_ret
    exact ⟨rfl, rfl⟩
  by_cases h6 : 4398046511104 < L
  · go_enter Trym.func26, Trym.ntmps26
    go_wp2
    go_ret
    exact ⟨rfl, rfl⟩
  exact absurd (show fits k p L from ⟨by omega, by omega, by omega, by omega, by omega, by omega⟩) h

end Go.Proofs.Qxb6000744aMods.Geo
