/-
  THE CLOSED FACTS THAT EVERY ROW OF THIS SEAT ASKS OF THE PROGRAM's HEAD.
  The head's own text is long (nine roots): the kernel, asked to read it sign by sign out of a string, outgrows the lid on memory. Here the string is taken as 'String.ofList' of its signs first ('String.toList_ofList'), and each fact is reckoned for whatever program bears those signs: seconds.
-/
import Derived.Test.Qxb6000744aModsRows
import Derived.ProofKit
namespace Go.Proofs.Qxb6000744aMods.Facts

theorem signs_of {s : String} {cs : List Char} (h : s = String.ofList cs) : s.toList = cs := by rw [h]; exact String.toList_ofList

set_option maxRecDepth 1000000 in
theorem make_eq : (Trym.pinned.checked.prog.make == some (.lifted ["publicsums"])) = true := by
  obtain ⟨cs, h, e⟩ : ∃ cs, Trym.pinned.checked.prog.initOrder = String.ofList cs ∧ ∀ Q : Program, Q.initOrder.toList = cs → (Q.make == some (.lifted ["publicsums"])) = true := by
    refine ⟨_, rfl, ?_⟩
    intro Q hQ
    unfold Program.make Program.headLifts
    rw [hQ]
    show _ = true
    kernel_rfl
  exact e _ (signs_of h)

set_option maxRecDepth 1000000 in
theorem liftsFinal_eq : (false == Trym.pinned.checked.prog.liftsFinal) = true := by
  obtain ⟨cs, h, e⟩ : ∃ cs, Trym.pinned.checked.prog.initOrder = String.ofList cs ∧ ∀ Q : Program, Q.initOrder.toList = cs → (false == Q.liftsFinal) = true := by
    refine ⟨_, rfl, ?_⟩
    intro Q hQ
    unfold Program.liftsFinal Program.headLifts
    rw [hQ]
    show _ = true
    kernel_rfl
  exact e _ (signs_of h)

theorem laysLater_eq : Trym.pinned.checked.prog.laysLater = false := by kernel_rfl
theorem bearsReflect_eq : Trym.pinned.checked.prog.bearsReflect = false := by kernel_rfl
theorem doorRows_eq : Trym.pinned.checked.prog.doorRows = [] := by kernel_rfl

set_option maxRecDepth 1000000 in
theorem mayEnter_eq : Trym.pinned.checked.prog.mayEnter = true := by
  obtain ⟨cs, h, e⟩ : ∃ cs, Trym.pinned.checked.prog.initOrder = String.ofList cs ∧ ∀ Q : Program, Q.initOrder.toList = cs → Q.laysLater = false → Q.bearsReflect = false → Q.doorRows = [] → Q.mayEnter = true := by
    refine ⟨_, rfl, ?_⟩
    intro Q hQ h1 h2 h3
    unfold Program.mayEnter Program.doorFits
    rw [hQ, h1, h2, h3]
    show _ = true
    kernel_rfl
  exact e _ (signs_of h) laysLater_eq bearsReflect_eq doorRows_eq

theorem and_of {a b : Bool} (ha : a = true) (hb : b = true) : (a && b) = true := by rw [ha, hb]; rfl

end Go.Proofs.Qxb6000744aMods.Facts
