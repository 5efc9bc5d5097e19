/-
  PROOF OF 'Rows.FnMostIsPluralityLowestOnTieSaid'. The frame is the kit's template for a law over slices, turned to one parameter of type [][]byte; the walks lie in the Most texts.
-/
import Derived.Test.Qxb6000744aModsRows
import Derived.Test.Qxb6000744aModsMostLaw3
import Derived.Test.Qxb6000744aModsFacts
import Derived.WalkKit
import Derived.ProofKit
import Derived.OpenShut
import Derived.ChangeOld
import Derived.Below
import Derived.Deep.Matrix
namespace Go.Proofs.Qxb6000744aMods.fnMostIsPluralityLowestOnTie
open Go.ChangeShapes Go.WideShapes Go.ChangeAt Go.RowKit

theorem own : ownKnob Trym.prog.godebug = none := by kernel_rfl
theorem laidOut : laidOutB Trym.prog = true := by kernel_rfl
theorem cells25 : Trym.prog.cellsOf 25 = 1 := by kernel_rfl
theorem cells5 : Trym.prog.cellsOf 5 = 1 := by kernel_rfl

/-- Cells that are told by 'Addr.add', at a plain address: where there is a cell at all. -/
theorem plain_at {w : World} {a : Addr} {n : Nat} {V : Nat → Value} (h : ∀ i, i < n → w.cell? (a.add i) = some (V i)) (hp : 0 < n) :
    ∃ b off, a = ⟨b, off, none⟩ ∧ ∀ j, j < n → w.cell? ⟨b, off + j, none⟩ = some (V j) := by
  obtain ⟨b, off, spot⟩ := a
  have hspot : spot = none := by simpa [Addr.add] using World.cell?_spot (h 0 hp)
  subst hspot
  exact ⟨b, off, rfl, fun j hj => by rw [← add_plain]; exact h j hj⟩

/-- A byte that fits its kind. -/
theorem byte_of {n : Int} (h : (Lit.int .u8 n).wf = true) : ((n.toNat % 256 : Nat) : Int) = n := by
  have := bounds_u8 h
  omega

/-- The pieces as the walk reads them. -/
theorem rd {H : Type} {enc : TypeId × Value → H} {W : World} {a : Option Addr} {len cap fuel : Nat} {x : DataW H × List MemPlace} (hf : DataW.trod enc Trym.prog W 0 (fun _ => true) true fuel 22 [.slice a len cap] = some x) :
    ∃ A Ln Cp z, Most.RdB W a len A Ln Cp z ∧ (∀ r, r < len → Ln r ≤ maxLen) ∧ ∀ r c, z r c < 256 := by
  rcases Go.Deep.open_int_rows Trym.underlying22 Trym.underlying25 Trym.underlying5 cells25 cells5 hf with ⟨hcs, _⟩ | ⟨y, l, c, A, L, C, Z, hcs, _, hl, _, _, hrows⟩
  · simp only [List.cons.injEq, Value.slice.injEq, and_true] at hcs
    obtain ⟨rfl, rfl, rfl⟩ := hcs
    exact ⟨fun _ => none, fun _ => 0, fun _ => 0, fun _ _ => 0, .inl rfl, fun r h => by omega, fun _ _ => (by decide : (0 : Nat) < 256)⟩
  · simp only [List.cons.injEq, Value.slice.injEq, and_true] at hcs
    obtain ⟨rfl, rfl, rfl⟩ := hcs
    refine ⟨A, L, C, fun r i => ((Z r).getD i 0).toNat % 256, ?_, fun r hr => ?_, fun r i => Nat.mod_lt _ (by omega)⟩
    · by_cases h0 : len = 0
      · exact .inl h0
      · obtain ⟨b, off, rfl, hc⟩ := plain_at (V := fun r => .slice (A r) (L r) (C r)) (fun i hi => (hrows i hi).1) (show 0 < cap by omega)
        refine .inr ⟨b, off, rfl, fun r hr => ⟨hc r (by omega), ?_⟩⟩
        obtain ⟨_, hLC, _, hZ, hwf, hnil, hcell⟩ := hrows r (by omega)
        by_cases h1 : L r = 0
        · exact .inl h1
        · cases hA : A r with
          | none => have := hnil hA; omega
          | some a' =>
            obtain ⟨b', off', rfl, hc'⟩ := plain_at (V := fun i => .int .u8 ((Z r).getD i 0)) (hcell a' hA).2 (show 0 < C r by omega)
            refine .inr ⟨b', off', rfl, fun i hi => ?_⟩
            rw [hc' i (by omega), byte_of (hwf _ ?_)]
            rw [List.getD_eq_getElem?_getD, List.getElem?_eq_getElem (by omega)]
            exact List.getElem_mem _
    · have := hrows r (by omega)
      omega

set_option maxRecDepth 100000 in
theorem lifted (os : Os) (started : os.Started) (H : Type) (enc : TypeId × Value → H) :
    ReturnsInHanded {} Trym.checked os 3 .any (Rows.fnMostIsPluralityLowestOnTieSpec.pre6 enc Trym.prog Trym.f3 Rows.fnMostIsPluralityLowestOnTieRow.domain false) (Rows.fnMostIsPluralityLowestOnTieSpec.post enc Trym.prog Trym.f3 false true false false) := by
  refine returnsInHanded_of_change (C := Trym.checked) own started (by kernel_rfl) Trym.func3
    (ChangeSpec.witness6 (enc := enc) (C := Trym.checked) false ⟨#[], #[.slice none 0 0], []⟩ 8 (by kernel_rfl) (by kernel_rfl) (by kernel_rfl) (by kernel_rfl)) ?_
  intro W base args ds gs before hval0 hW hcnd _
  have hval : ∀ (j : Nat) t v, Trym.f3.params[j]? = some t → args[j]? = some v → Value.okWide Trym.prog W .any base t v := hval0
  have hW' := hW
  obtain ⟨p, q, hA0, hV, rfl, hfz, hnd⟩ := hW
  have hA : DataW.TrodAll enc Trym.prog W 0 (fun _ => true) true Trym.f3.params.toList args.toList ds p := hA0
  rw [Trym.params3] at hA hval
  obtain ⟨v0, vs0, d0, ds0, p0, q0, hargs, rfl, rfl, h0, r0⟩ := trodAll_cons hA
  obtain ⟨rfl, rfl, rfl⟩ := trodAll_nil r0
  obtain rfl : args = #[v0] := by cases args; simp_all
  obtain ⟨rfl, rfl⟩ := trodVars_none hV
  obtain ⟨a0, len0, cap0, rfl⟩ := okWide_slice Trym.underlying22 (hval 0 22 v0 rfl rfl)
  have k0 := h0
  have lt0 : ∀ x ∈ p0, x.block < W.heap.size := by obtain ⟨m, hm⟩ := k0; exact DataW.trod_lt m _ _ _ hm
  obtain ⟨A, Ln, Cp, z, hrd, hM, hz⟩ : ∃ A Ln Cp z, Most.RdB W a0 len0 A Ln Cp z ∧ (∀ r, r < len0 → Ln r ≤ maxLen) ∧ ∀ r c, z r c < 256 := by
    obtain ⟨fuel, hf⟩ := h0
    exact rd hf
  clear hA0 hval0
  refine (Most.law3_any a0 len0 cap0 A Ln Cp z W hM hz hrd).mono fun e W' ⟨he, bel⟩ => ?_
  subst he
  exact ⟨_, rfl, _, _, _, [], _, [], hW', trodAll_mk1 (shut_bool Trym.underlying4 _), (trodAll_cons_mk (Below.trod laidOut (by kernel_rfl) (of_decide_eq_true (by kernel_rfl)) k0 bel lt0) trodAll_mk0), rfl, bel.frame _, fun h => by cases h⟩

theorem hfn : Trym.pinned.checked.prog.funcNamed Rows.fnMostIsPluralityLowestOnTieRow.func = some 3 := by kernel_rfl
theorem closed : joinedFacts Trym.pinned.checked.prog 3 Trym.f3 Rows.fnMostIsPluralityLowestOnTieSpec Rows.fnMostIsPluralityLowestOnTieRow = true := by
  unfold joinedFacts
  refine Facts.and_of (Facts.and_of (Facts.and_of (Facts.and_of (Facts.and_of (Facts.and_of (Facts.and_of ?_ Facts.mayEnter_eq) Facts.liftsFinal_eq) Facts.make_eq) ?_) ?_) ?_) ?_
  all_goals kernel_rfl
theorem hinst : Trym.f3.isInstance Trym.pinned.checked.prog Rows.fnMostIsPluralityLowestOnTieRow.origin Rows.fnMostIsPluralityLowestOnTieRow.targs := of_decide_eq_true (by kernel_rfl)
theorem hwrap : Trym.f3.isWrapper Trym.pinned.checked.prog Rows.fnMostIsPluralityLowestOnTieRow.wrapper Rows.fnMostIsPluralityLowestOnTieRow.mainSum := by unfold Func.isWrapper; first | (rw [if_pos (by decide +kernel)]; kernel_rfl) | (rw [if_neg (by decide +kernel)]; exact ⟨rfl, rfl⟩)

theorem over : Rows.fnMostIsPluralityLowestOnTieRow.holds Trym.pinned (OpenSpec.ofChange Rows.fnMostIsPluralityLowestOnTieSpec) :=
  OpenClaim.holds_of_wide 3 Trym.f3 rfl rfl rfl rfl rfl rfl rfl ⟨rfl, rfl, rfl, rfl, rfl⟩ rfl rfl rfl rfl rfl hfn Trym.func3 closed hinst hwrap
    (fun os started H enc _ => lifted os started H enc)

/-- ████ THE STATEMENT ████ -/
theorem proved : Rows.FnMostIsPluralityLowestOnTieSaid := over
#print axioms proved
end Go.Proofs.Qxb6000744aMods.fnMostIsPluralityLowestOnTie
