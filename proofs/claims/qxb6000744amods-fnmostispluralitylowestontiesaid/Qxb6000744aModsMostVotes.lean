/-
  THE VOTES: an array of 256 counters; laws for its laying and reading.
-/
import Derived.Test.Qxb6000744aModsMostClone
import Derived.Deep.Cut
namespace Go.Proofs.Qxb6000744aMods.Most
open Go.RowKit

/-- The zero value of [256]int. -/
def zero256 : Array Value := Array.replicate 256 (.int .i64 0)

theorem zero27 : (Trym.prog.info? 27).bind (·.zero) = some (.agg zero256) := by kernel_rfl
theorem size27 : (Trym.prog.info? 27).map (·.size) = some 256 := by kernel_rfl
theorem size3 : (Trym.prog.info? 3).map (·.size) = some 1 := by kernel_rfl

/-- A variable of an array's type, laid: its cells behind a name. -/
theorem wpList_alloc_agg {P : Program} (w : World) {ops : Array Oper} {rest : List Oper} {o : Oper} {a : Act} {Q : Exit → Act → World → Prop} (hgd : o.guard = none) (ty : TypeId) (ho : o.op = .alloc ty)
    (cs : Array Value) (hz : (P.info? ty).bind (·.zero) = some (.agg cs))
    (h : wpList P ops Q rest (a.put o.dst (.pointer (some ⟨w.heap.size, 0, none⟩))) (w.alloc (.cells cs ty))) : wpList P ops Q (o :: rest) a w := by
  refine wpList_plain hgd fun K hK => ?_
  cases hi : P.info? ty with
  | none => simp [hi] at hz
  | some i =>
    have hz' : i.zero = some (.agg cs) := by simpa [hi] using hz
    have hrun : (Instr.alloc ty true (.tuple #[])).run P w = .ok (.pointer (some ⟨w.heap.size, 0, none⟩)) (w.alloc (.cells cs ty)) := by
      simp [Instr.alloc, zeroValue, typeInfo, hi, hz', newVar, newRow, Value.cells]
    unfold Oper.wp execOp
    simp only [ho, Sem.run_bind, Sem.run_pure, hrun, Result.andThen_ok]
    exact hK _ _ h

/-- An element of an array by value. -/
theorem run_index27 (cs : Array Value) (v : Nat) (x : Value) (hv : v < 256) (hx : cs[v]? = some x) (w : World) : (Instr.index 27 (.agg cs) (.int .i64 (v : Int))).run Trym.prog w = .ok x w := by
  obtain ⟨i, hi, hs⟩ := Option.map_eq_some_iff.1 size3
  have hs' : (sizeOf 3).run Trym.prog w = .ok 1 w := by simp [sizeOf, typeInfo, hi, hs]
  simp [Instr.index, run_underlying Trym.underlying27, asIntOf, hs', part, hx]
  intro h
  omega

/-- The votes at place j, the first k pieces counted. -/
def Votes (w : World) (C : Nat) (z : Nat → Nat → Nat) (j k : Nat) : Prop := w.rowIs C 27 256 (fun v => .int .i64 (cnt z j v k : Nat))

theorem zero256_size : zero256.size = 256 := by unfold zero256; exact Array.size_replicate

theorem Votes.start (w : World) (z : Nat → Nat → Nat) (j : Nat) : Votes (w.alloc (.cells zero256 27)) w.heap.size z j 0 := by
  have h := World.rowIs_alloc w zero256 27 (fun _ => .int .i64 0) (fun i hi => by
    rw [zero256_size] at hi
    unfold zero256
    rw [Array.getElem?_replicate, if_pos hi])
  rw [zero256_size] at h
  exact h.congr fun _ _ => rfl

theorem Votes.step {w : World} {C : Nat} {z : Nat → Nat → Nat} {j k : Nat} (h : Votes w C z j k) : Votes (w.setCell ⟨C, z k j, none⟩ (.int .i64 ((cnt z j (z k j) k : Nat) + 1 : Int))) C z j (k + 1) :=
  (World.rowIs.set h (z k j) _).congr fun v _ => by
    by_cases e : v = z k j
    · subst e; rw [if_pos rfl, cnt_hit]; rfl
    · rw [if_neg e, cnt_miss e]

end Go.Proofs.Qxb6000744aMods.Most
