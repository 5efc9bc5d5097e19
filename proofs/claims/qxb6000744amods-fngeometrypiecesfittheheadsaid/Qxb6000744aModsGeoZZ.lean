/-
  WHAT geometry (30) AND ZZGeometry (27) COME TO.
-/
import Derived.Test.Qxb6000744aModsGeoCore
import Derived.BigQuiet
namespace Go.Proofs.Qxb6000744aMods.Geo
open Go.RowKit

theorem grown_drewN {W w' : World} (h : Grown W w') (n : Nat) : Grown W (w'.drewN n) := h

theorem min_if (c s : Int) : (if c < s then c else s) = min s c := by omega
theorem max_if (c : Int) : (if 1 < c then c else 1) = max 1 c := by omega

theorem geometry_any (k p s L : Int) (w : World) (hf : fits k p L) :
    Calls Trym.prog 30 #[.pointer (some ⟨w.heap.size, 0, none⟩)] (w.alloc (Lo k p s L)) fun e w' => e = .returned (.agg #[.int .i64 k, .int .i64 p, .int .i64 (k + p), .int .i64 (sz k s L), .int .i64 (bl k s L), .int .i64 L, .int .i64 (ar k p s L), .int .i64 28, .int .i64 (sp (ar k p s L)), .int .i64 (ct (ar k p s L))]) ∧ Grown w w' := by
  obtain ⟨h1, h2, h3, h4, h5, h6⟩ := hf
  have z1 := sz_pos k s L
  have hr := row_pos k s L h1
  have hr2 := row_le k s L h1 h5
  have hz2 := row_ge k s L h1
  obtain ⟨n1, n2, a1, a2⟩ := nb_bd k p s L h1 h2 h3 h4 h5 h6
  refine geometry_core k p s L (cd L k) (min s (cd L k)) (sz k s L) (cd L (k * sz k s L)) (bl k s L) (ar k p s L) _ _ w h1 h2 h3 h4 (fun w => ceil_any _ _ w (by omega) (by omega) (by omega) (by omega)) (min_if _ _) (max_if _) z1 (by omega) hr (by omega)
    (fun w => ceil_any _ _ w (by omega) (by omega) (by omega) (by omega)) (max_if _) n1 (by omega) a1 (by omega) rfl ?_
  by_cases t : ar k p s L + 392 ≤ 3670016
  · exact .inl ⟨t, by unfold sp; rw [if_pos t], by unfold ct; rw [if_pos t]⟩
  · refine .inr ⟨t, by unfold sp; rw [if_neg t], fun w => ?_⟩
    have e : ct (ar k p s L) = cd (ar k p s L) 262116 := by unfold ct; rw [if_neg t]
    rw [e]
    exact ceil_any _ _ w (by omega) (by omega) (by omega) (by omega)

set_option maxRecDepth 100000 in
set_option maxHeartbeats 1000000 in
theorem zz_core (k p s L z b a x y : Int) (w : World)
    (hc : Hid (Calls Trym.prog 30 #[.pointer (some ⟨w.heap.size, 0, none⟩)] (w.alloc (Lo k p s L)) fun e w' => e = .returned (.agg #[.int .i64 k, .int .i64 p, .int .i64 (k + p), .int .i64 z, .int .i64 b, .int .i64 L, .int .i64 a, .int .i64 28, .int .i64 x, .int .i64 y]) ∧ Grown w w')) :
    ZZat k p s L z b a x y w := by
  unfold ZZat
  go_enter Trym.func27, Trym.ntmps27
  go_wp2_with fail
  refine Calls.mono hc ?_
  rintro e w1 ⟨rfl, hg⟩
  go_wp2_with fail
  go_quiet (fail)
  go_wp2
  refine bodyPost_ret (v := .tuple #[.int .i64 z, .int .i64 b, .int .i64 a, .int .i64 28, .int .i64 x, .int .i64 y]) (by simp [results, Trym.results27, go_sem]) rfl ⟨rfl, ?_⟩
  exact grown_drewN (Grown.alloc hg _ _) _

theorem zz_any : ZZ := fun k p s L w hf => zz_core k p s L _ _ _ _ _ w (geometry_any k p s L w hf)

end Go.Proofs.Qxb6000744aMods.Geo
