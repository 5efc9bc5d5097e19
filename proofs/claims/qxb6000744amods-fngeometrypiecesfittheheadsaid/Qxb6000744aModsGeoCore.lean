/-
  THE WALK OF geometry (30).
-/
import Derived.Test.Qxb6000744aModsGeoLaws
import Derived.BigRegion
import Derived.StillTailTactics
import Derived.Deep.Cut
namespace Go.Proofs.Qxb6000744aMods.Geo
open Go.RowKit

/-- The layout's block; the geometry's block, field by field. -/
abbrev Lo (k p s L : Int) : Obj := .cells #[.int .u16 0, .int .i64 k, .int .i64 p, .int .i64 s, .int .i64 0, .int .i64 0, .int .i64 L] 53
abbrev Gm (k p n z b L a u v c : Int) : Obj := .cells #[.int .i64 k, .int .i64 p, .int .i64 n, .int .i64 z, .int .i64 b, .int .i64 L, .int .i64 a, .int .i64 u, .int .i64 v, .int .i64 c] 57

/-- 'wp_region_still_tail', the draw under its own name. -/
theorem still_tail {P : Program} {id : Nat} {Q : Exit → Act → World → Prop} {a : Act} {w : World} {l : List Oper} (n : Nat) (hm : P.follows .mixedOrders = true) (hB : Region.lexTailB .any l.toArray n = true)
    (h : wpStill P l.toArray w.drew (fun a' => wpList P l.toArray Q (l.drop n) a' w.drew) (l.take n) a) : (Code.region id l.toArray true).wp P Q a w :=
  wp_region_still_tail n hm hB h

set_option maxRecDepth 100000 in
set_option maxHeartbeats 1000000 in
theorem geometry_core (k p s L c0 m z c b a x y : Int) (w : World) (h1 : 1 ≤ k) (h2 : k ≤ 65536) (h3 : 0 ≤ p) (h4 : p ≤ 65536)
    (hc0 : Hid (∀ w, Calls Trym.prog 31 #[.int .i64 L, .int .i64 k] w fun e w' => e = .returned (.int .i64 c0) ∧ w' = w)) (hm : (if c0 < s then c0 else s) = m) (hz : (if 1 < m then m else 1) = z) (z1 : 1 ≤ z) (z2 : z ≤ 5000000000000) (r1 : 1 ≤ k * z) (r2 : k * z ≤ 5000000000000)
    (hc : Hid (∀ w, Calls Trym.prog 31 #[.int .i64 L, .int .i64 (k * z)] w fun e w' => e = .returned (.int .i64 c) ∧ w' = w)) (hb : (if 1 < c then c else 1) = b) (n1 : 1 ≤ (k + p) * b) (n2 : (k + p) * b ≤ 5000000000000000000)
    (a1 : 1 ≤ a) (a2 : a ≤ 5000000000000000000) (ha : (k + p) * b * (z + 4) = a)
    (hx : Hid ((a + 392 ≤ 3670016 ∧ x = (a + 392) / 14 ∧ y = 14) ∨ (¬ a + 392 ≤ 3670016 ∧ x = 262144 ∧ Hid (∀ w, Calls Trym.prog 31 #[.int .i64 a, .int .i64 262116] w fun e w' => e = .returned (.int .i64 y) ∧ w' = w)))) :
    Calls Trym.prog 30 #[.pointer (some ⟨w.heap.size, 0, none⟩)] (w.alloc (Lo k p s L)) fun e w' => e = .returned (.agg #[.int .i64 k, .int .i64 p, .int .i64 (k + p), .int .i64 z, .int .i64 b, .int .i64 L, .int .i64 a, .int .i64 28, .int .i64 x, .int .i64 y]) ∧ Grown w w' := by
  go_enter Trym.func30, Trym.ntmps30
  go_upto_region 1 with fail
  go_cut [3] from 4 (fun s3 wc => s3 = .pointer (some ⟨w.heap.size + 1 + 1, 0, none⟩) ∧ wc = (((w.alloc (Lo k p s L)).alloc (Gm 0 0 0 0 0 0 0 0 0 0)).alloc (Gm k p (k + p) 0 0 L 0 0 0 0)).drew)
  case first =>
    go_region
    all_goals (go_wp2_with fail; go_meet; exact ⟨rfl, rfl⟩)
  case rest =>
  obtain ⟨rfl, rfl⟩ := hcut
  go_upto_region 2 with fail
  refine still_tail 11 (by kernel_rfl) (by kernel_rfl) ?_
  simp only [List.take_succ_cons, List.take_zero, List.drop_succ_cons, List.drop_zero]
  iterate 8 still_step
  still_call (hc0.out _)
  repeat still_step
  refine wpStill_nil ?_
  go_wp2_with fail
  refine (hc.out _).mono ?_
  rintro e w' ⟨rfl, rfl⟩
  rcases hx.out with ⟨t, rfl, rfl⟩ | ⟨t, rfl, hca⟩
  · go_wp2_with fail
    refine bodyPost_ret (v := .agg #[.int .i64 k, .int .i64 p, .int .i64 (k + p), .int .i64 z, .int .i64 b, .int .i64 L, .int .i64 a, .int .i64 28, .int .i64 ((a + 392) / 14), .int .i64 14]) (by simp [results, Trym.results30, go_sem]) rfl ⟨rfl, ?_⟩
    repeat (first | exact Grown.refl _ | apply Grown.drew | apply Grown.alloc)
  · go_wp2_with fail
    refine (hca.out _).mono ?_
    rintro e w' ⟨rfl, rfl⟩
    go_wp2_with fail
    refine bodyPost_ret (v := .agg #[.int .i64 k, .int .i64 p, .int .i64 (k + p), .int .i64 z, .int .i64 b, .int .i64 L, .int .i64 a, .int .i64 28, .int .i64 262144, .int .i64 y]) (by simp [results, Trym.results30, go_sem]) rfl ⟨rfl, ?_⟩
    repeat (first | exact Grown.refl _ | apply Grown.drew | apply Grown.alloc)
end Go.Proofs.Qxb6000744aMods.Geo
