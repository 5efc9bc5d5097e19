/-
  WALKS OF THE LEAVES ON THE ROAD OF THE LAW ON most: the bound on bytes (12), mostFits (13).
-/
import Derived.Test.Qxb6000744aModsProg
import Derived.Test.Qxb6000744aModsMostPlain
import Derived.WalkKit
import Derived.WalkSpells
import Derived.WalkLawsBesides
import Derived.BigQuiet
import Derived.Deep.OwnRows
import Derived.Lib.SliceRun
namespace Go.Proofs.Qxb6000744aMods.Most
open Go.RowKit

/-- A slice of bytes that can be read up to its length. -/
def RdU (w : World) (a : Option Addr) (len : Nat) (z : Nat → Nat) : Prop :=
  len = 0 ∨ ∃ b off, a = some ⟨b, off, none⟩ ∧ ∀ i, i < len → w.cell? ⟨b, off + i, none⟩ = some (.int .u8 (z i))

theorem RdU.below {w w' : World} {a : Option Addr} {len : Nat} {z : Nat → Nat} (h : RdU w a len z) (hb : Below w.heap.size w w') : RdU w' a len z := by
  rcases h with h | ⟨b, off, rfl, hc⟩
  · exact .inl h
  · exact .inr ⟨b, off, rfl, fun i hi => (hb.cell (p := ⟨b, off + i, none⟩) (World.block_lt_of_cell? w _ (hc i hi))).trans (hc i hi)⟩

/-- One piece: its slice, its bytes. -/
def Piece (w : World) (b off r : Nat) (A : Nat → Option Addr) (Ln Cp : Nat → Nat) (z : Nat → Nat → Nat) : Prop :=
  w.cell? ⟨b, off + r, none⟩ = some (.slice (A r) (Ln r) (Cp r)) ∧ RdU w (A r) (Ln r) (z r)

/-- Pieces that can be read. -/
def RdB (w : World) (a : Option Addr) (len : Nat) (A : Nat → Option Addr) (Ln Cp : Nat → Nat) (z : Nat → Nat → Nat) : Prop :=
  len = 0 ∨ ∃ b off, a = some ⟨b, off, none⟩ ∧ ∀ r, r < len → Piece w b off r A Ln Cp z

theorem Piece.below {w w' : World} {b off r : Nat} {A : Nat → Option Addr} {Ln Cp : Nat → Nat} {z : Nat → Nat → Nat} (h : Piece w b off r A Ln Cp z) (hb : Below w.heap.size w w') : Piece w' b off r A Ln Cp z :=
  ⟨(hb.cell (p := ⟨b, off + r, none⟩) (World.block_lt_of_cell? w _ h.1)).trans h.1, h.2.below hb⟩

theorem RdB.below {w w' : World} {a : Option Addr} {len : Nat} {A : Nat → Option Addr} {Ln Cp : Nat → Nat} {z : Nat → Nat → Nat} (h : RdB w a len A Ln Cp z) (hb : Below w.heap.size w w') : RdB w' a len A Ln Cp z := by
  rcases h with h | ⟨b, off, rfl, hc⟩
  · exact .inl h
  · exact .inr ⟨b, off, rfl, fun r hr => (hc r hr).below hb⟩

/-- It ends in some Bool and leaves the world as it was. -/
def EndBool (w : World) (e : Ending) (w' : World) : Prop := w' = w ∧ ∃ b, e = .returned (.bool b)
theorem end_bool {w : World} {b : Bool} : EndBool w (.returned (.bool b)) w := ⟨rfl, b, rfl⟩

set_option maxHeartbeats 1000000 in
theorem bytes_body (b off len cap : Nat) (A : Nat → Option Addr) (Ln Cp : Nat → Nat) (z : Nat → Nat → Nat) (w : World) (hl : len ≤ 1048576) (hL : Hid (∀ r, r < len → Ln r ≤ maxLen))
    (k0 : Hid (∀ r, r < len → Piece w b off r A Ln Cp z)) :
    Calls Trym.prog 12 #[.slice (some ⟨b, off, none⟩) len cap] w (EndBool w) := by
  go_enter Trym.func12, Trym.ntmps12
  go_wp2
  go_loop [3, 4] (fun s i => ∃ (k : Nat) (q : Int), k ≤ len ∧ i = .int .i64 k ∧ s = .int .i64 q ∧ 0 ≤ q ∧ q ≤ 1048576) (fun _ i => len - (intOf i).toNat)
  case atStart => exact ⟨0, len, Nat.zero_le _, rfl, rfl, by omega, by omega⟩
  case round =>
    obtain ⟨k, q, hk, rfl, rfl, q0, q1⟩ := hrel
    by_cases hlt : k < len
    · have c0 := (k0.out k hlt).1
      have hLk : Ln k ≤ maxLen := hL.out k hlt
      unfold maxLen at hLk
      generalize A k = ak at *
      generalize Ln k = lk at *
      generalize Cp k = ck at *
      by_cases t1 : (1048576 : Int) < (lk : Int)
      · go_wp2
        go_ret
        exact end_bool
      by_cases t2 : (1048576 : Int) < q + (lk : Int)
      · go_wp2
        go_ret
        exact end_bool
      · go_wp2
        go_round
        case rel => exact ⟨k + 1, q + lk, by omega, by go_num, rfl, by omega, by omega⟩
        case measure => simp [intOf]; omega
    · go_wp2
      go_ret
      exact end_bool

set_option maxHeartbeats 1000000 in
theorem bytes_none (a : Option Addr) (cap : Nat) (w : World) : Calls Trym.prog 12 #[.slice a 0 cap] w (EndBool w) := by
  go_enter Trym.func12, Trym.ntmps12
  go_wp2
  refine wp_loop_rounds 1 ?_
  rw [rounds_succ]
  go_wp2
  go_ret
  exact end_bool

set_option maxHeartbeats 1000000 in
theorem bytes_long (a : Option Addr) (len cap : Nat) (w : World) (h : (1048576 : Int) < (len : Int)) : Calls Trym.prog 12 #[.slice a len cap] w (EndBool w) := by
  go_enter Trym.func12, Trym.ntmps12
  go_wp2
  go_ret
  exact end_bool

theorem bytes_any (a : Option Addr) (len cap : Nat) (A : Nat → Option Addr) (Ln Cp : Nat → Nat) (z : Nat → Nat → Nat) (w : World) (hL : ∀ r, r < len → Ln r ≤ maxLen) (h : RdB w a len A Ln Cp z) :
    Calls Trym.prog 12 #[.slice a len cap] w (EndBool w) := by
  rcases h with rfl | ⟨b, off, rfl, k0⟩
  · exact bytes_none a cap w
  · by_cases h : (1048576 : Int) < (len : Int)
    · exact bytes_long _ len cap w h
    · exact bytes_body b off len cap A Ln Cp z w (by omega) hL k0

/-- How mostFits ends. -/
def EndFits (len : Nat) (Ln : Nat → Nat) (w : World) (e : Ending) (w' : World) : Prop :=
  w' = w ∧ ∃ b, e = .returned (.bool b) ∧ (b = true → len ≤ 4096 ∧ ∀ r, r < len → 28 ≤ Ln r ∧ Ln r ≤ 1048576)

theorem end_false {len : Nat} {Ln : Nat → Nat} {w : World} : EndFits len Ln w (.returned (.bool false)) w := ⟨rfl, false, rfl, fun h => by cases h⟩

set_option maxHeartbeats 1000000 in
theorem fits_body (b off len cap : Nat) (A : Nat → Option Addr) (Ln Cp : Nat → Nat) (z : Nat → Nat → Nat) (w : World) (hl : len ≤ 4096) (hL : Hid (∀ r, r < len → Ln r ≤ maxLen))
    (k0 : Hid (∀ r, r < len → Piece w b off r A Ln Cp z)) :
    Calls Trym.prog 13 #[.slice (some ⟨b, off, none⟩) len cap] w (EndFits len Ln w) := by
  go_enter Trym.func13, Trym.ntmps13
  go_wp2
  go_loop [3, 4] (fun s i => ∃ (k : Nat) (q : Int), k ≤ len ∧ i = .int .i64 k ∧ s = .int .i64 q ∧ 0 ≤ q ∧ q ≤ 1048576 ∧ Hid (∀ r, r < k → 28 ≤ Ln r ∧ Ln r ≤ 1048576)) (fun _ i => len - (intOf i).toNat)
  case atStart => exact ⟨0, 24 * len, Nat.zero_le _, rfl, rfl, by omega, by omega, fun r h => by omega⟩
  case round =>
    obtain ⟨k, q, hk, rfl, rfl, q0, q1, hall⟩ := hrel
    by_cases hlt : k < len
    · have c0 := (k0.out k hlt).1
      have hLk : Ln k ≤ maxLen := hL.out k hlt
      unfold maxLen at hLk
      have hnext : Hid (28 ≤ Ln k → Ln k ≤ 1048576 → ∀ r, r < k + 1 → 28 ≤ Ln r ∧ Ln r ≤ 1048576) := fun h1 h2 r hr => by
        by_cases e : r = k
        · subst e; exact ⟨h1, h2⟩
        · exact hall.out r (by omega)
      generalize A k = ak at *
      generalize hlk : Ln k = lk at *
      generalize Cp k = ck at *
      clear hlk
      by_cases t1 : (1048576 : Int) < (lk : Int)
      · go_wp2
        go_ret
        exact end_false
      by_cases t2 : (1048576 : Int) < q + (lk : Int)
      · go_wp2
        go_ret
        exact end_false
      by_cases t3 : (lk : Int) < 28
      · go_wp2
        go_ret
        exact end_false
      · go_wp2
        go_round
        case rel => exact ⟨k + 1, q + lk, by omega, by go_num, rfl, by omega, by omega, hnext.out (by omega) (by omega)⟩
        case measure => simp [intOf]; omega
    · go_wp2
      go_ret
      obtain rfl : k = len := by omega
      exact ⟨rfl, true, rfl, fun _ => ⟨hl, hall.out⟩⟩

set_option maxHeartbeats 1000000 in
theorem fits_none (a : Option Addr) (cap : Nat) (Ln : Nat → Nat) (w : World) : Calls Trym.prog 13 #[.slice a 0 cap] w (EndFits 0 Ln w) := by
  go_enter Trym.func13, Trym.ntmps13
  go_wp2
  refine wp_loop_rounds 1 ?_
  rw [rounds_succ]
  go_wp2
  go_ret
  exact ⟨rfl, true, rfl, fun _ => ⟨by omega, fun r h => by omega⟩⟩

theorem fits_any (a : Option Addr) (len cap : Nat) (A : Nat → Option Addr) (Ln Cp : Nat → Nat) (z : Nat → Nat → Nat) (w : World) (hl : len ≤ 4096) (hL : ∀ r, r < len → Ln r ≤ maxLen) (h : RdB w a len A Ln Cp z) :
    Calls Trym.prog 13 #[.slice a len cap] w (EndFits len Ln w) := by
  rcases h with rfl | ⟨b, off, rfl, k0⟩
  · exact fits_none a cap Ln w
  · exact fits_body b off len cap A Ln Cp z w hl hL k0

end Go.Proofs.Qxb6000744aMods.Most
